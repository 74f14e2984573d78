import PyProof.Rows.All
import PyProof.AssertRaise
import PyProof.PureInt
import PyProof.DictTruth
import PyProof.DictTable
import PyProof.EqKinds
import PyProof.ExcBaseAll.Exception
import PyProof.ExcBaseAll.TypeError
import PyProof.RaisesMany
import PyProof.WalksMore
import PyProof.RangeFor
import PyProof.InstStoreFacts
import PyProof.ListIndexNeg
import PyProof.ZipIter
import PyProof.WalksPairs
import PyProof.RulesDel
import PyProof.SliceMore
import PyProof.TupleOfSeq
import PyProof.TupleOfGen
import PyProof.Rows.Range3
import PyProof.Rows.RaiseClass
import Open.Line
import KE.KDictList
import KE.KEqSeq
import KE.KRevIter
import Wide.FinOn
import OpenK.AllK
import Wide.All
import Lean
import PySem.Challenge.RW_jp0055_01
set_option Elab.async false
section
open PySem PyProof.Rows PySem.Calls
set_option Elab.async false
namespace Mine
open PySem (Sem Str Value Heap Obj Shared)
theorem gen {M : Model} {A : Around} {α : Type} {t : Sem α} {Q : α → Shared → Prop} {E : Value → Shared → Prop} {s : Shared} (h : ∀ Q' : α → Shared → Prop, (∀ f s', Q f s' → Q' f s') → wpAny M A t Q' E s) : wpAny M A t Q E s := h Q fun _ _ x => x
theorem genE {M : Model} {A : Around} {α : Type} {t : Sem α} {Q : α → Shared → Prop} {E : Value → Shared → Prop} {s : Shared} (h : ∀ (Q' : α → Shared → Prop) (E' : Value → Shared → Prop), (∀ f s', Q f s' → Q' f s') → (∀ e s', E e s' → E' e s') → wpAny M A t Q' E' s) : wpAny M A t Q E s := h Q E (fun _ _ x => x) fun _ _ x => x
noncomputable def nextQ (M : Model) (A : Around) (rest : List Stmt) (env : Env) (Q : Flow → Shared → Prop) (E : Value → Shared → Prop) (f : Flow) (s' : Shared) : Prop := match f with
  | .next => wpAny M A (execs rest env) Q E s'
  | f => Q f s'
theorem xcons {M : Model} {A : Around} {env : Env} {s : Shared} {E : Value → Shared → Prop} {st : Stmt} {rest : List Stmt} {Q : Flow → Shared → Prop} (h : wpAny M A (exec st env) (nextQ M A rest env Q E) E s) : wpAny M A (execs (st :: rest) env) Q E s := wpAny_execs_cons h
noncomputable def forR (M : Model) (A : Around) (env : Env) (Q : Flow → Shared → Prop) (E : Value → Shared → Prop) (r : Result) (s' : Shared) : Prop := match r with
  | .ok f => Q f s'
  | .error e => cameBackBy M A env E e s'
noncomputable def iterQ (M : Model) (A : Around) (target : Expr) (body orelse : List Stmt) (env : Env) (Q : Flow → Shared → Prop) (E : Value → Shared → Prop) (x : Value) (s₁ : Shared) : Prop :=
  wpAny M A (pyIter x) (fun it s₂ => codeAny M A (.forLoop target it body orelse env) (forR M A env Q E) s₂) E s₁
theorem xFor {M : Model} {A : Around} {env : Env} {s : Shared} {E : Value → Shared → Prop} {target iter : Expr} {body orelse : List Stmt} {pos : Pos} {Q : Flow → Shared → Prop} (h : wpAny M A (eval iter env) (iterQ M A target body orelse env Q E) E s)
    (hs : ∀ x, foldedSetIterable iter env x = pure x := by intro _; rfl) : wpAny M A (exec (.For target iter body orelse pos) env) Q E s := wpAny_For h hs
theorem pk1 {α : Type} {P1 : α → Prop} {G : Prop} (v : α) (h1 : P1 v) (k : ∀ v : α, P1 v → G) : G := k v h1
theorem pk2 {α : Type} {P1 P2 : α → Prop} {G : Prop} (v : α) (h1 : P1 v) (h2 : P2 v) (k : ∀ v : α, P1 v → P2 v → G) : G := k v h1 h2
theorem pk3 {α : Type} {P1 P2 P3 : α → Prop} {G : Prop} (v : α) (h1 : P1 v) (h2 : P2 v) (h3 : P3 v) (k : ∀ v : α, P1 v → P2 v → P3 v → G) : G := k v h1 h2 h3
theorem pk4 {α : Type} {P1 P2 P3 P4 : α → Prop} {G : Prop} (v : α) (h1 : P1 v) (h2 : P2 v) (h3 : P3 v) (h4 : P4 v) (k : ∀ v : α, P1 v → P2 v → P3 v → P4 v → G) : G := k v h1 h2 h3 h4
theorem pk5 {α : Type} {P1 P2 P3 P4 P5 : α → Prop} {G : Prop} (v : α) (h1 : P1 v) (h2 : P2 v) (h3 : P3 v) (h4 : P4 v) (h5 : P5 v) (k : ∀ v : α, P1 v → P2 v → P3 v → P4 v → P5 v → G) : G := k v h1 h2 h3 h4 h5
theorem pk6 {α : Type} {P1 P2 P3 P4 P5 P6 : α → Prop} {G : Prop} (v : α) (h1 : P1 v) (h2 : P2 v) (h3 : P3 v) (h4 : P4 v) (h5 : P5 v) (h6 : P6 v) (k : ∀ v : α, P1 v → P2 v → P3 v → P4 v → P5 v → P6 v → G) : G := k v h1 h2 h3 h4 h5 h6
theorem oz1 {a m k n : Nat} (h : a ≤ m) (e : Nat.ble (m + k) n = true) : a + k ≤ n := Nat.le_trans (Nat.add_le_add_right h k) (Nat.le_of_ble_eq_true e)
theorem oz2 {a m n : Nat} (h : a ≤ m) (e : Nat.ble m n = true) : a ≤ n := Nat.le_trans h (Nat.le_of_ble_eq_true e)
theorem oz3 {a b m n : Nat} (h : a + b ≤ m) (e : Nat.ble m n = true) : a ≤ n := Nat.le_trans (Nat.le_add_right a b) (oz2 h e)
theorem oz4 {a b m n : Nat} (h : a + b ≤ m) (e : Nat.ble m n = true) : b ≤ n := Nat.le_trans (Nat.le_add_left b a) (oz2 h e)
theorem oz5 {a m : Nat} (h : a ≤ m) (e : Nat.ble m 9223372036854775807 = true) : (a : Int) < 2 ^ 63 := Int.ofNat_lt.mpr (Nat.lt_succ_of_le (oz2 h e))
theorem oz6 {a m : Nat} (h : a < m) (e : Nat.ble m 9223372036854775807 = true) : (a : Int) < 2 ^ 63 := oz5 (Nat.le_of_lt h) e
theorem oz7 {n i : Nat} (h : i < n) : n + 1 - (i + 1) < n + 1 - i := Nat.sub_lt_sub_left (Nat.lt_succ_of_lt h) (Nat.lt_succ_self i)
theorem oz8 {n i : Nat} (h : i < n) : n - (i + 1) < n := Nat.sub_lt (Nat.lt_of_le_of_lt (Nat.zero_le i) h) (Nat.succ_pos i)
theorem oz9 {a b m k n : Nat} (h : a ≤ b + k) (h2 : b ≤ m) (e : Nat.ble (m + k) n = true) : a ≤ n := oz2 (Nat.le_trans h (Nat.add_le_add_right h2 k)) e
theorem oz10 {a b m k j n : Nat} (h : a ≤ b + k) (h2 : b ≤ m) (e : Nat.ble (m + k + j) n = true) : a + j ≤ n := oz1 (Nat.le_trans h (Nat.add_le_add_right h2 k)) e
theorem oz11 {a k j : Nat} (e : Nat.ble k j = true) : a + k ≤ a + j := Nat.add_le_add_left (Nat.le_of_ble_eq_true e) a
theorem oz12 {a m n : Nat} (h : a < m) (e : Nat.ble m n = true) : a < n := oz2 h e
theorem oz13 {a m n : Nat} (h : a < m) (e : Nat.ble m n = true) : a ≤ n := Nat.le_of_lt (oz2 h e)
end Mine
end
section
open PySem PySem.W PyProof.Rows PySem.Calls
set_option Elab.async false
set_option maxRecDepth 100000
set_option linter.unusedVariables false
namespace Mine
open PySem (Sem Str Value Heap Obj Shared)
noncomputable def SameX (o o' : Obj) : Prop := o'.cls = o.cls ∧ o'.dict = o.dict ∧ o'.data = o.data ∧ (o.cls ≠ .type "frame" → o'.slots = o.slots)
theorem SameX.refl (o : Obj) : SameX o o := ⟨rfl, rfl, rfl, fun _ => rfl⟩
theorem SameX.trans {a b c : Obj} (x : SameX a b) (y : SameX b c) : SameX a c := ⟨y.1.trans x.1, y.2.1.trans x.2.1, y.2.2.1.trans x.2.2.1, fun n => (y.2.2.2 (by rw [x.1]; exact n)).trans (x.2.2.2 n)⟩
theorem SameX.eq {a b : Obj} (x : SameX a b) (n : a.cls ≠ .type "frame") : b = a := by
  obtain ⟨_, _, _, _⟩ := a; obtain ⟨_, _, _, _⟩ := b; obtain ⟨e1, e2, e3, e4⟩ := x; dsimp only at e1 e2 e3 e4 n; subst e1 e2 e3; rw [e4 n]
noncomputable def Kp (D : List Addr) (h h' : Heap) : Prop := ∀ b o, b ∉ D → h.get? b = some o → ∃ o', h'.get? b = some o' ∧ SameX o o'
theorem Kp.refl (D : List Addr) (h : Heap) : Kp D h h := fun b o _ e => ⟨o, e, .refl o⟩
theorem Kp.trans {D : List Addr} {h h' h'' : Heap} (x : Kp D h h') (y : Kp D h' h'') : Kp D h h'' := fun b o hb e =>
  let ⟨_, e1, s1⟩ := x b o hb e
  let ⟨o2, e2, s2⟩ := y b _ hb e1
  ⟨o2, e2, s1.trans s2⟩
theorem Kp.mono {D D' : List Addr} {h h' : Heap} (x : Kp D h h') (s : ∀ b, b ∈ D → b ∈ D') : Kp D' h h' := fun b o hb e => x b o (fun q => hb (s b q)) e
theorem Kp.of_keep {D : List Addr} {h h' : Heap} (k : ∀ b o, h.get? b = some o → h'.get? b = some o) : Kp D h h' := fun b o _ e => ⟨o, k b o e, .refl o⟩
theorem Kp.of_ext {a : Addr} {h h' : Heap} (k : Heap.ExtBut a h h') : Kp [a] h h' := fun b o hb e => ⟨o, k b o (fun q => hb (by simp [q])) e, .refl o⟩
theorem Kp.of_same {a : Addr} {h h' : Heap} (k : Heap.SameBut a h h') : Kp [a] h h' := .of_ext k.extBut
theorem Kp.push {D : List Addr} (h : Heap) (o : Obj) : Kp D h (h.push o) := .of_keep fun _ _ e => Heap.get?_push_of_some o e
theorem notin1 {a b : Addr} (h : a ≠ b) : a ∉ [b] := by simpa using h
theorem notin0 {a : Addr} : a ∉ ([] : List Addr) := fun h => nomatch h
theorem kp_tup {D : List Addr} {h h' : Heap} {l : Addr} {xs : Array Value} (x : IsTup h l xs) (k : Kp D h h') (n : l ∉ D) : IsTup h' l xs :=
  let ⟨o, e, c, m, d⟩ := x; let ⟨o', e', s⟩ := k l o n e; ⟨o', e', s.1.trans c, m, s.2.2.1.trans d⟩
theorem kp_cell {D : List Addr} {h h' : Heap} {c : Addr} {v : Option Value} (x : h.IsCell c v) (k : Kp D h h') (n : c ∉ D) : h'.IsCell c v :=
  let ⟨o, e, d⟩ := x; let ⟨o', e', s⟩ := k c o n e; ⟨o', e', s.2.2.1.trans d⟩
noncomputable def NsC (c : Value) (h : Heap) (a : Addr) (m : Str → Option Value) : Prop :=
  ∃ o es ep, h.get? a = some o ∧ o.cls = c ∧ o.dict = none ∧ o.data = .dict es ep ∧ StrKeys es ∧ ∀ name, nsFind es name = m name
theorem NsC.ns {c : Value} {h : Heap} {a : Addr} {m} (x : NsC c h a m) : h.Ns a m := let ⟨o, es, ep, e, _, _, r⟩ := x; ⟨o, es, ep, e, r⟩
theorem kp_nsc {c : Value} {D : List Addr} {h h' : Heap} {l : Addr} {m} (x : NsC c h l m) (k : Kp D h h') (n : l ∉ D) : NsC c h' l m :=
  let ⟨o, es, ep, e, c, d, d2, r⟩ := x; let ⟨o', e', s⟩ := k l o n e; ⟨o', es, ep, e', s.1.trans c, s.2.1.trans d, s.2.2.1.trans d2, r⟩
theorem NsC.some {c : Value} {h : Heap} {a : Addr} {m} (x : NsC c h a m) : h.get? a ≠ none := let ⟨_, _, _, e, _⟩ := x; by rw [e]; exact fun z => nomatch z
theorem ne_of_cls {h : Heap} {a b : Addr} {o o' : Obj} (e : h.get? a = some o) (e' : h.get? b = some o') (n : o.cls ≠ o'.cls) : a ≠ b := fun q => by
  subst q; rw [e] at e'; cases e'; exact n rfl
section
variable {M : Model} {A : Around} {E : Value → Shared → Prop} {s : Shared}
theorem nsSet_c {c : Value} {a : Addr} {m} {name : Str} {v : Value} {Q : Unit → Shared → Prop} (hn : NsC c s.heap a m)
    (h : ∀ h', NsC c h' a (fun x => if x = name then some v else m x) → Heap.SameBut a s.heap h' → Q () { s with heap := h', toks := s.toks + 1 }) :
    wpAny M A (nsSet a name v) Q E s := by
  intro Γ p _
  obtain ⟨o, es, ep, ho, hc, hdi, hd, hk, hm⟩ := hn
  simp only [nsSet, strHash, Sem.wp_bind', Sem.wp_cmd_ask, Sem.wp_pure', Sem.wp_cmd_mkText]
  rw [Sem.wp_loadPart_of M Γ _ p { s with toks := s.toks + 1 } (o := o) _ ho]
  have hany : es.any (·.refKey) = false := by
    rw [Array.any_eq_false']; intro e he; obtain ⟨n, t, h⟩ := hk e he; simp [DictEntry.refKey, h]
  simp only [hd, aRefKeyMayBeTheName_eq, aRefKeyMayBeTheNameByArray, hany, Bool.and_false, Bool.false_eq_true, if_false, Sem.wp_cmd_updatePart]
  refine ⟨by rw [ho]; rfl, h _ ?_ (Heap.SameBut.update ..)⟩
  obtain ⟨cl, di, dt, sl⟩ := o
  simp only at hc hdi hd
  subst hc hdi hd
  cases hi : es.findIdx? (·.key.isStr name) with
  | some i =>
    refine ⟨_, _, ep, Heap.get?_update_self _ ho (by simp only [Obj.putName_eq, Obj.putNameByArray, hi]; rfl), by simp only [Obj.putName_eq, Obj.putNameByArray, hi], by simp only [Obj.putName_eq, Obj.putNameByArray, hi], by simp only [Obj.putName_eq, Obj.putNameByArray, hi]; rfl, hk.modify _ _, fun x => ?_⟩
    show _ = if x = name then some v else m x
    rw [← hm]; exact findBy_modify (fun n v => v.isStr n) Value.isStr_inj es name x v i hi
  | none =>
    refine ⟨_, _, ep + 1, Heap.get?_update_self _ ho (by simp only [Obj.putName_eq, Obj.putNameByArray, hi]; rfl), by simp only [Obj.putName_eq, Obj.putNameByArray, hi], by simp only [Obj.putName_eq, Obj.putNameByArray, hi], by simp only [Obj.putName_eq, Obj.putNameByArray, hi]; rfl, hk.push _ _ _ _, fun x => ?_⟩
    show _ = if x = name then some v else m x
    rw [← hm]
    exact findBy_push (fun n v => v.isStr n) es name x _ _ v (fun y => by
      show (name == y) = decide (y = name)
      by_cases h : y = name
      · subst h; simp
      · have : ¬ name = y := fun e => h e.symm
        simp [h, this]) hi
theorem storeLocal_c {c : Value} {env : Env} {name : Str} {m} {v : Value} {Q : Unit → Shared → Prop} (hl : env.kindOf name = some .local)
    (hn : NsC c s.heap env.locals m)
    (h : ∀ h', NsC c h' env.locals (fun x => if x = name then some v else m x) → Heap.SameBut env.locals s.heap h' →
      Q () { s with heap := h', toks := s.toks + 1 })
    (hp : (env.scope.kind == .class || (env.scope.kind == .module && env.locals != env.globals)) = false := by rfl) : wpAny M A (storeName env name v) Q E s := by
  rw [storeName_local hl hp]; exact nsSet_c hn h
end
end Mine
end
section
open PySem PySem.W PyProof.Rows PySem.Calls
set_option Elab.async false
set_option maxRecDepth 100000
set_option linter.unusedVariables false
set_option linter.unusedSimpArgs false
namespace Mine
open PySem (Sem Str Value Heap Obj Shared)
noncomputable abbrev frC : Value := .type "frame"
noncomputable abbrev kOf (scope : Scope) (x : Str) : Option NameKind := scope.names.lookup x
structure InC (h₀ : Heap) (L : Addr) (cs : List (Str × Addr)) (m cm : Str → Option Value) (h : Heap) : Prop where
  fr : NsC frC h L m
  cell : ∀ n c, cs.lookup n = some c → h.IsCell c (cm n)
  apart : cs.Pairwise fun x y => x.2 ≠ y.2
  above : ∀ n c, (n, c) ∈ cs → L < c
  keep : ∀ b o, h₀.get? b = some o → h.get? b = some o
  lo : h₀.objs.size ≤ L
  sz : L < h.objs.size
section
variable {M : Model} {A : Around} {E : Value → Shared → Prop}
theorem bindParams_c {h₀ : Heap} {env : Env} (hk : env.scope.kind = .function) (f : Str × Value → PUnit → Sem (ForInStep PUnit)) (hf : ∀ n v u, f (n, v) u = (do storeName env n v; pure (.yield ⟨⟩))) :
    ∀ (binds : List (Str × Value)) (m cm : Str → Option Value) (s : Shared) (Q : PUnit → Shared → Prop), InC h₀ env.locals env.cells m cm s.heap →
      (∀ x ∈ binds, env.kindOf x.1 = some .local ∨ (env.kindOf x.1 = some .cell ∧ (env.cells.lookup x.1).isSome = true)) →
      (∀ h' tk, InC h₀ env.locals env.cells (bindL env.kindOf binds m) (bindC env.kindOf binds cm) h' → Q ⟨⟩ { s with heap := h', toks := tk }) → wpAny M A (forIn binds ⟨⟩ f) Q E s
  | [], m, cm, s, Q, x, _, h => by rw [List.forIn_nil]; exact wpAny_pure (h s.heap s.toks x)
  | (n, v) :: r, m, cm, s, Q, x, hkind, h => by
    rw [List.forIn_cons, hf]
    have hr : ∀ y ∈ r, env.kindOf y.1 = some .local ∨ (env.kindOf y.1 = some .cell ∧ (env.cells.lookup y.1).isSome = true) := fun y hy => hkind y (List.mem_cons_of_mem _ hy)
    rcases hkind (n, v) List.mem_cons_self with hl | ⟨hl, hc⟩
    · refine wpAny_bind (wpAny_bind (storeLocal_c hl x.fr (fun h' hn hs => wpAny_pure (bindParams_c hk f hf r _ cm _ Q ⟨hn, fun k c hc => (x.cell k c hc).sameBut hs (Nat.ne_of_gt (x.above k c (mem_of_lookup hc))), x.apart, x.above, fun b o e => hs.extBut b o (Nat.ne_of_lt (Nat.lt_of_lt_of_le (Heap.lt_size e) x.lo)) (x.keep b o e), x.lo, by
        show env.locals < h'.objs.size
        rw [hs.1]; exact x.sz⟩ hr fun h'' tk x'' => h h'' tk ?_)) (by rw [hk]; rfl)))
      unfold bindL bindC; rw [if_pos hl, if_pos hl]; exact x''
    · obtain ⟨c, hc⟩ := Option.isSome_iff_exists.mp hc
      have hnl : ¬ env.kindOf n = some .local := by rw [hl]; decide
      have hLc := x.above n c (mem_of_lookup hc)
      refine wpAny_bind (wpAny_bind (wpAny_storeName_cell hk hl hc (x.cell n c hc) fun h' hc' hs => wpAny_pure (bindParams_c hk f hf r m (fun y => if y = n then some v else cm y) _ Q ⟨kp_nsc x.fr (Kp.of_same hs) (notin1 (Nat.ne_of_lt hLc)), fun k c' hk' => ?_, x.apart, x.above, fun b o e => hs.extBut b o (Nat.ne_of_lt (Nat.lt_trans (Nat.lt_of_lt_of_le (Heap.lt_size e) x.lo) hLc)) (x.keep b o e), x.lo, by
        show env.locals < h'.objs.size
        rw [hs.1]; exact x.sz⟩ hr fun h'' tk x'' => h h'' tk ?_)))
      · by_cases hkn : k = n
        · subst hkn
          rw [hc] at hk'; cases hk'
          simpa using hc'
        · simp only [hkn, if_false]
          exact (x.cell k c' hk').sameBut hs fun e => hkn (name_of_addr x.apart (mem_of_lookup hk') (e ▸ mem_of_lookup hc))
      · unfold bindL bindC; rw [if_neg hnl, if_neg hnl]; exact x''
theorem frC_new (h : Heap) : NsC frC (h.push { cls := .type "frame", data := .dict #[] }) h.objs.size fun _ => none :=
  ⟨_, #[], 0, Heap.get?_push_size _ rfl, rfl, rfl, rfl, fun _ he => by simp at he, fun _ => rfl⟩
theorem pushCells_size : ∀ (names : List (Str × NameKind)) (h : Heap), h.objs.size ≤ (pushCells h names).objs.size
  | [], _ => Nat.le_refl _
  | (_, kind) :: r, h => by
    unfold pushCells
    split
    · exact Nat.le_trans (by rw [Heap.size_push]; exact Nat.le_succ _) (pushCells_size r _)
    · exact pushCells_size r h
theorem newEnv_c {s : Shared} {scope : Scope} {globals : Addr} {binds : List (Str × Value)} {qual : Str} {func : Option Addr} {code : Value} {builtins : Addr} {Q : Env → Shared → Prop}
    (hk : scope.kind = .function)
    (hkind : ∀ n, ∀ x ∈ binds, scope.names.lookup x.1 = some .local ∨ (scope.names.lookup x.1 = some .cell ∧ ((cellsFrom n scope.names []).lookup x.1).isSome = true))
    (hQ : ∀ L h' tk, s.heap.objs.size = L → InC s.heap L (cellsFrom (L + 1) scope.names []) (bindL (kOf scope) binds fun _ => none) (bindC (kOf scope) binds fun _ => none) h' →
      Q (newEnv scope L globals (cellsFrom (L + 1) scope.names []) qual func code none builtins) { s with heap := h', toks := tk }) :
    wpAny M A (newFunctionEnv scope globals [] binds qual func code none builtins) Q E s := by
  simp only [newFunctionEnv, Option.isSome_none, Bool.false_eq_true, if_false]
  refine wpAny_bind (wpAny_alloc ?_)
  refine wpAny_bind (wpAny_layCells _ (fun name kind cells => by cases hkc : kind == NameKind.cell <;> simp [hkc]) _ _ _ _ ?_)
  have ok := cellsFrom_ok scope.names (s.heap.push { cls := .type "frame", data := .dict #[] }) (s.heap.objs.size + 1) [] ⟨fun _ _ hm => (nomatch hm), List.Pairwise.nil⟩ (by rw [Heap.size_push]; exact Nat.le_refl _)
  rw [Heap.size_push] at ok
  rw [show ({ s with heap := s.heap.push { cls := .type "frame", data := .dict #[] } } : Shared).heap.objs.size = s.heap.objs.size + 1 from Heap.size_push ..]
  refine wpAny_bind (bindParams_c (h₀ := s.heap) (env := newEnv scope s.heap.objs.size globals (cellsFrom (s.heap.objs.size + 1) scope.names []) qual func code none builtins) hk
    _ (fun _ _ _ => rfl) binds (fun _ => none) (fun _ => none) _ _
    ⟨kp_nsc (frC_new s.heap) (Kp.of_keep (D := []) (pushCells_keeps _ _)) notin0, fun n c hc => (ok.empty n c (mem_of_lookup hc)).1, ok.apart, fun n c hm => (ok.empty n c hm).2,
      fun b o e => pushCells_keeps _ _ b o (Heap.get?_push_of_some _ e), Nat.le_refl _, Nat.lt_of_lt_of_le (by rw [Heap.size_push]; exact Nat.lt_succ_self _) (pushCells_size _ _)⟩
    (hkind _) fun h' tk x => wpAny_pure (hQ _ h' tk rfl x))
end
section
variable {prog : Program} {w : World} {A : Around} {s : Shared}
theorem call_c {R : Result → Shared → Prop} {name qual : Str} {params : Arguments} {body : List Stmt} {scope : Scope} {dV kV doc pm cdv ct : Value} {an : Option Addr} {fo : Obj} {f : Addr} {args : Args} {binds : List (Str × Value)}
    (hroom : A.depth < recursionLimit) (ho : s.heap.get? f = some fo) (hd : fo.data = .func (fnX name qual params body scope [] dV kV doc pm an cdv ct)) (hlim : s.heap.NoLimit) (hcd : s.heap.CodeRec cdv qual)
    (hbind : BindsTo s (fnX name qual params body scope [] dV kV doc pm an cdv ct) args binds)
    (hkind : (binds.all fun y => scope.names.lookup y.1 == some .local || scope.names.lookup y.1 == some .cell) = true)
    (h : ∀ L h₁ tk, s.heap.objs.size = L → InC s.heap L (cellsFrom (L + 1) scope.names []) (bindL (kOf scope) binds fun _ => none) (bindC (kOf scope) binds fun _ => none) h₁ →
      wpAny (model prog w) (A.deeper (envX qual scope L f cdv (cellsFrom (L + 1) scope.names []))) (execs body (envX qual scope L f cdv (cellsFrom (L + 1) scope.names [])))
        (fun fl s' => R (.ok (.ret (match fl with | .ret v => v | _ => .none))) s')
        (fun e s' => wpAny (model prog w) (A.deeper (envX qual scope L f cdv (cellsFrom (L + 1) scope.names []))) (leaving (envX qual scope L f cdv (cellsFrom (L + 1) scope.names [])) e) (fun _ s'' => R (.error e) s'') (fun e' s'' => R (.error e') s'') s')
        { s with heap := h₁, toks := tk })
    (hco : scope.isCoroutine = false) (hgen : scope.isGenerator = false) (hk : scope.kind = .function) : codeAny (model prog w) A (.call (.ref f) args) R s := by
  refine codeAny_call_function hroom ho hd hco hgen rfl hcd (hbind _ _ _ _ ?_)
  refine newEnv_c hk (fun n => kindsX hkind n) fun L h₁ tk hL x => ⟨hlim.keeps x.keep, codeAny_func ?_⟩
  exact h L h₁ tk hL x
end
end Mine
end
section
open PySem PySem.W PyProof.Rows PySem.Calls
set_option Elab.async false
set_option genSizeOf false
set_option genInjectivity false
set_option maxRecDepth 100000
set_option linter.unusedVariables false
set_option linter.unusedSimpArgs false
namespace Mine
open PySem (Sem Str Value Heap Obj Shared)
structure Cx where
  prog : Program
  w : World
  hb : Heap
  K : Frag
  mg : Str → Option Value
  mb : Str → Option Value
  c1 : Addr
  P1 : Addr
  p1 : Pos
  c2 : Addr
  P2 : Addr
  p2 : Pos
  os : OsState
noncomputable abbrev Cx.M (C : Cx) : Model := model C.prog C.w
structure Cx.Ok (C : Cx) : Prop where
  x : C.K.In C.hb
  kn : ∀ a o, C.K.lookup a = some o → a ≠ C.P1 ∧ a ≠ C.P2
  g : C.hb.Ns mainGlobals C.mg
  b : C.hb.Ns builtinsNs C.mb
  bi : ∀ x : Str, x ≠ "__name__" → C.mb x = bootBuiltins x
  nl : C.hb.NoLimit
  t1 : C.hb.TableAt C.c1 C.P1 #[]
  t2 : C.hb.TableAt C.c2 C.P2 #[]
  ne : C.P1 ≠ C.P2
  sys : C.hb.get? sysModules ≠ none
noncomputable def Tab (h : Heap) (c P : Addr) (p : Pos) : Prop := h.TableAt c P #[] ∨ ∃ c', h.TableAt c P #[rawInt p.line, rawInt p.col, .ref c']
structure Amb (C : Cx) (h : Heap) : Prop where
  ok : C.Ok
  old : ∀ b o, C.hb.get? b = some o → b ≠ C.P1 → b ≠ C.P2 → h.get? b = some o
  t1 : Tab h C.c1 C.P1 C.p1
  t2 : Tab h C.c2 C.P2 C.p2
theorem tab_keep {h h' : Heap} {c P : Addr} {p : Pos} (t : Tab h c P p) (hc : ∀ o, h.get? c = some o → h'.get? c = some o) (hP : ∀ o, h.get? P = some o → h'.get? P = some o) : Tab h' c P p :=
  t.imp (fun ⟨⟨o, vs, a, r⟩, t⟩ => ⟨⟨o, vs, hc _ a, r⟩, hP _ t⟩) fun ⟨c', ⟨⟨o, vs, a, r⟩, t⟩⟩ => ⟨c', ⟨⟨o, vs, hc _ a, r⟩, hP _ t⟩⟩
theorem Amb.start {C : Cx} (O : C.Ok) : Amb C C.hb := ⟨O, fun _ _ e _ _ => e, .inl O.t1, .inl O.t2⟩
theorem tab_there {h : Heap} {c P : Addr} {p : Pos} (t : Tab h c P p) : h.get? P ≠ none := by
  rcases t with t | ⟨_, t⟩ <;> (rw [t.2]; exact fun z => nomatch z)
section
variable {C : Cx} {h h' : Heap}
theorem Amb.keep (A : Amb C h) (k : ∀ b o, C.hb.get? b ≠ none → h.get? b = some o → h'.get? b = some o) : Amb C h' := by
  have O := A.ok
  have e1 : C.hb.get? C.c1 ≠ none := by obtain ⟨⟨o, _, e, _⟩, _⟩ := O.t1; rw [e]; exact fun z => nomatch z
  have e2 : C.hb.get? C.c2 ≠ none := by obtain ⟨⟨o, _, e, _⟩, _⟩ := O.t2; rw [e]; exact fun z => nomatch z
  have f1 : C.hb.get? C.P1 ≠ none := by rw [O.t1.2]; exact fun z => nomatch z
  have f2 : C.hb.get? C.P2 ≠ none := by rw [O.t2.2]; exact fun z => nomatch z
  exact ⟨O, fun b o e n1 n2 => k b o (by rw [e]; exact fun z => nomatch z) (A.old b o e n1 n2), tab_keep A.t1 (fun o => k _ o e1) (fun o => k _ o f1), tab_keep A.t2 (fun o => k _ o e2) (fun o => k _ o f2)⟩
theorem Amb.all (A : Amb C h) (k : ∀ b o, h.get? b = some o → h'.get? b = some o) : Amb C h' := A.keep fun b o _ => k b o
theorem Amb.ext (A : Amb C h) {a : Addr} (ha : C.hb.get? a = none) (hs : Heap.ExtBut a h h') : Amb C h' := A.keep fun b o n => hs b o fun q => n (q ▸ ha)
theorem Amb.fresh (A : Amb C h) {a : Addr} (n : h.get? a = none) : C.hb.get? a = none := by
  cases q : C.hb.get? a with
  | none => rfl
  | some o =>
    by_cases h1 : a = C.P1
    · subst h1; exact absurd n (tab_there A.t1)
    · by_cases h2 : a = C.P2
      · subst h2; exact absurd n (tab_there A.t2)
      · rw [A.old a o q h1 h2] at n; cases n
theorem Amb.x (A : Amb C h) : C.K.In h := fun a o e => A.old a o (A.ok.x a o e) (A.ok.kn a o e).1 (A.ok.kn a o e).2
theorem ns_amb (A : Amb C h) {a : Addr} {m} (n : C.hb.Ns a m) : h.Ns a m := by
  have O := A.ok
  obtain ⟨o, es, ep, e, d, r⟩ := n
  refine ⟨o, es, ep, A.old a o e (fun q => ?_) (fun q => ?_), d, r⟩
  · subst q; rw [O.t1.2] at e; cases e; cases d
  · subst q; rw [O.t2.2] at e; cases e; cases d
theorem Amb.g (A : Amb C h) : h.Ns mainGlobals C.mg := ns_amb A A.ok.g
theorem Amb.b (A : Amb C h) : h.Ns builtinsNs C.mb := ns_amb A A.ok.b
theorem Amb.nl (A : Amb C h) : h.NoLimit := let ⟨mc, a, b⟩ := A.ok.nl; ⟨mc, ns_amb A a, b⟩
end
noncomputable def NsD (z : Nat) (h : Heap) (a : Addr) (m : Str → Option Value) : Prop :=
  ∃ o es ep, h.get? a = some o ∧ o.cls = .type "dict" ∧ o.dict = none ∧ o.data = .dict es ep ∧ StrKeys es ∧ (∀ name, nsFind es name = m name) ∧ es.size ≤ z
theorem NsD.c {z : Nat} {h : Heap} {a : Addr} {m} (x : NsD z h a m) : NsC (.type "dict") h a m := let ⟨o, es, ep, e, c, d, d2, r, k, _⟩ := x; ⟨o, es, ep, e, c, d, d2, r, k⟩
theorem kp_nsd {z : Nat} {D : List Addr} {h h' : Heap} {l : Addr} {m} (x : NsD z h l m) (k : Kp D h h') (n : l ∉ D) : NsD z h' l m :=
  let ⟨o, es, ep, e, c, d, d2, r⟩ := x; let ⟨o', e', s⟩ := k l o n e; ⟨o', es, ep, e', s.1.trans c, s.2.1.trans d, s.2.2.1.trans d2, r⟩
theorem nsd_new (h : Heap) : NsD 0 (h.push { cls := .type "dict", data := .dict #[] }) h.objs.size fun _ => none :=
  ⟨_, #[], 0, Heap.get?_push_size _ rfl, rfl, rfl, rfl, fun _ he => by simp at he, fun _ => rfl, Nat.le_refl _⟩
section
variable {M : Model} {A : Around} {E : Value → Shared → Prop} {s : Shared}
theorem nsSet_d {z : Nat} {a : Addr} {m} {name : Str} {v : Value} {Q : Unit → Shared → Prop} (hn : NsD z s.heap a m)
    (h : ∀ h', NsD (if (m name).isSome then z else z + 1) h' a (fun x => if x = name then some v else m x) → Heap.SameBut a s.heap h' → Q () { s with heap := h', toks := s.toks + 1 }) :
    wpAny M A (nsSet a name v) Q E s := by
  intro Γ p _
  obtain ⟨o, es, ep, ho, hc, hdi, hd, hk, hm, hz⟩ := hn
  simp only [nsSet, strHash, Sem.wp_bind', Sem.wp_cmd_ask, Sem.wp_pure', Sem.wp_cmd_mkText]
  rw [Sem.wp_loadPart_of M Γ _ p { s with toks := s.toks + 1 } (o := o) _ ho]
  have hany : es.any (·.refKey) = false := by
    rw [Array.any_eq_false']; intro e he; obtain ⟨n, t, h⟩ := hk e he; simp [DictEntry.refKey, h]
  simp only [hd, aRefKeyMayBeTheName_eq, aRefKeyMayBeTheNameByArray, hany, Bool.and_false, Bool.false_eq_true, if_false, Sem.wp_cmd_updatePart]
  refine ⟨by rw [ho]; rfl, h _ ?_ (Heap.SameBut.update ..)⟩
  obtain ⟨cl, di, dt, sl⟩ := o
  simp only at hc hdi hd
  subst hc hdi hd
  have hfi := findBy_of_findIdx? (fun n v => v.isStr n) es name
  cases hi : es.findIdx? (·.key.isStr name) with
  | some i =>
    have hs : (m name).isSome = true := by
      rw [← hm name]
      have : es.findIdx? (fun e => e.key.isStr name) = some i := hi
      show (findBy (fun n v => v.isStr n) es name).isSome = true
      rw [hfi, this]
      obtain ⟨hlt, _⟩ := Array.findIdx?_eq_some_iff_getElem.mp this
      simp [hlt]
    rw [if_pos hs]
    refine ⟨_, _, ep, Heap.get?_update_self _ ho (by simp only [Obj.putName_eq, Obj.putNameByArray, hi]; rfl), by simp only [Obj.putName_eq, Obj.putNameByArray, hi], by simp only [Obj.putName_eq, Obj.putNameByArray, hi], by simp only [Obj.putName_eq, Obj.putNameByArray, hi]; rfl, hk.modify _ _, fun x => ?_, by simpa using hz⟩
    show _ = if x = name then some v else m x
    rw [← hm]; exact findBy_modify (fun n v => v.isStr n) Value.isStr_inj es name x v i hi
  | none =>
    have hs : ¬ (m name).isSome = true := by
      rw [← hm name]
      have : es.findIdx? (fun e => e.key.isStr name) = none := hi
      show ¬ (findBy (fun n v => v.isStr n) es name).isSome = true
      rw [hfi, this]; simp
    rw [if_neg hs]
    refine ⟨_, _, ep + 1, Heap.get?_update_self _ ho (by simp only [Obj.putName_eq, Obj.putNameByArray, hi]; rfl), by simp only [Obj.putName_eq, Obj.putNameByArray, hi], by simp only [Obj.putName_eq, Obj.putNameByArray, hi], by simp only [Obj.putName_eq, Obj.putNameByArray, hi]; rfl, hk.push _ _ _ _, fun x => ?_, by simp; (with_reducible assumption)⟩
    show _ = if x = name then some v else m x
    rw [← hm]
    exact findBy_push (fun n v => v.isStr n) es name x _ _ v (fun y => by
      show (name == y) = decide (y = name)
      by_cases h : y = name
      · subst h; simp
      · have : ¬ name = y := fun e => h e.symm
        simp [h, this]) hi
end
noncomputable def Ins (z : Nat) (h : Heap) (x Cl dx : Addr) (m : Str → Option Value) : Prop := (∃ o, h.get? x = some o ∧ o.cls = .ref Cl ∧ o.dict = some dx ∧ notCls o = true) ∧ NsD z h dx m
theorem kp_ins {z : Nat} {D : List Addr} {h h' : Heap} {x Cl dx : Addr} {m} (i : Ins z h x Cl dx m) (k : Kp D h h') (n1 : x ∉ D) (n2 : dx ∉ D) : Ins z h' x Cl dx m :=
  let ⟨⟨o, e, c, d, n⟩, r⟩ := i
  let ⟨o', e', s⟩ := k x o n1 e
  ⟨⟨o', e', s.1.trans c, s.2.1.trans d, by unfold notCls at n ⊢; rw [s.2.2.1]; exact n⟩, kp_nsd r k n2⟩
theorem Ins.at {z : Nat} {h : Heap} {x Cl dx : Addr} {m} (i : Ins z h x Cl dx m) : ∃ ox od, InstAt h x ox Cl (some od) ∧ ∀ name, lookIn name od = some (m name) := by
  obtain ⟨⟨o, e, c, d, n⟩, ⟨od, es, ep, e', c', d', dd, hk, hm, _⟩⟩ := i
  refine ⟨o, od, ⟨e, c, n, by rw [d]; exact e'⟩, fun name => ?_⟩
  unfold lookIn
  rw [dd]
  dsimp only
  rw [← hm name]
  unfold nsFind findBy
  rw [← Array.find?_toList]
  cases q : es.toList.find? (·.key.isStr name) with
  | some en => rfl
  | none =>
    have : es.toList.any (·.refKey) = false := by
      rw [List.any_eq_false]; intro en he; obtain ⟨n, t, h⟩ := hk en (Array.mem_toList_iff.mp he); simp [DictEntry.refKey, h]
    simp [this]
structure OwnA (K : Frag) (Cl : Addr) (name : Str) : Prop where
  g : plainGet K Cl name = true
  d : hasDictIn K Cl = true
  a : ∃ attr, findIn K (.ref Cl) name = some attr ∧ noGet K attr = true
structure ClsA (K : Frag) (Cl : Addr) (name : Str) (v : Value) : Prop where
  g : plainGet K Cl name = true
  d : hasDictIn K Cl = true
  a : findIn K (.ref Cl) name = some (some v)
  n : specialIn K v "__get__" = some none
  h : handedIn v = true
  c : copiedNames.contains name = false
structure PropA (K : Frag) (Cl : Addr) (name : Str) (fget : Addr) : Prop where
  g : plainGet K Cl name = true
  d : hasDictIn K Cl = true
  a : ∃ p rest, findIn K (.ref Cl) name = some (some (.ref p)) ∧ specialIn K (.ref p) "__get__" = some (some (.builtin "property.__get__")) ∧ takesIn K (.ref p) = some true ∧ recIn K p "property" = some (.ref fget :: rest)
structure MethA (K : Frag) (Cl : Addr) (name : Str) (f : Addr) : Prop where
  g : plainGet K Cl name = true
  a : findIn K (.ref Cl) name = some (some (.ref f))
  t : isFn K (.ref f) = true
structure StatA (K : Frag) (Cl : Addr) (name : Str) (f : Addr) : Prop where
  g : plainGet K Cl name = true
  c : copiedNames.contains name = false
  d : hasDictIn K Cl = true
  a : ∃ p rest, findIn K (.ref Cl) name = some (some (.ref p)) ∧ specialIn K (.ref p) "__get__" = some (some (.builtin "staticmethod.__get__")) ∧ takesIn K (.ref p) = some false ∧ recIn K p "staticmethod" = some (.ref f :: rest) ∧
      (typeIn K (.ref p)).any (fun t => t != .type "function" && t != .type "method_descriptor" && t != .type "wrapper_descriptor") = true
structure SetA (K : Frag) (Cl : Addr) (name : Str) : Prop where
  s : findIn K (.ref Cl) "__setattr__" = some (some (.builtin "object.__setattr__"))
  p : plainOver K Cl = true
  t : takerIn K Cl name = some none
  h : hasDictIn K Cl = true
section
variable {C : Cx} {A : Around} {E : Value → Shared → Prop} {s : Shared} {z : Nat} {x Cl dx : Addr} {m : Str → Option Value} {name : Str} {v : Value} {expr : Bool} {Q : Value → Shared → Prop}
theorem getOwn (F : Amb C s.heap) (I : Ins z s.heap x Cl dx m) (P : OwnA C.K Cl name) (hm : m name = some v) (hv : handedIn v = true) (h : Q v { s with toks := s.toks + 1 }) :
    wpAny C.M A (getAttr (.ref x) name expr) Q E s := by
  obtain ⟨ox, od, i, l⟩ := I.at
  obtain ⟨attr, ha, hn⟩ := P.a
  exact get_value (F.x) i (plainGet_of P.g).1 (findObj_own P.d ha hn ((l name).trans (by rw [hm]))) hv h
theorem getCls (F : Amb C s.heap) (I : Ins z s.heap x Cl dx m) (P : ClsA C.K Cl name v) (hm : m name = none) (h : Q v { s with toks := s.toks + 1 }) :
    wpAny C.M A (getAttr (.ref x) name expr) Q E s := by
  obtain ⟨ox, od, i, l⟩ := I.at
  exact get_value (F.x) i (plainGet_of P.g).1 (findObj_cls P.d P.a P.n P.h P.c ((l name).trans (by rw [hm]))) P.h h
theorem getProp {fget : Addr} (F : Amb C s.heap) (I : Ins z s.heap x Cl dx m) (P : PropA C.K Cl name fget)
    (h : codeAny C.M A.in1 (.call (.ref fget) ⟨[.ref x], []⟩) (fun r s' => match r with | .ok (.ret v) => wpAny C.M A (handedOut v) Q E s' | .ok _ => False | .error e => wpAny C.M A (noteIf true (.ref x) (.str name s.toks) e) (fun _ s'' => E e s'') E s') { s with toks := s.toks + 1 }) :
    wpAny C.M A (getAttr (.ref x) name expr) Q E s := by
  obtain ⟨ox, od, i, l⟩ := I.at
  obtain ⟨p, rest, ha, hn, ht, hp⟩ := P.a
  exact get_bind (F.x) i (plainGet_of P.g).1 (findObj_data (by obtain ⟨cd, hc, _⟩ := any_some P.d; rw [hc]; rfl) ha hn ht) (plainGet_of P.g).2 (wpAny_call (prop_get (s := { s with toks := s.toks + 1 }) (F.x) hp h))
theorem getMeth {pl : Sem Bool} {f : Addr} {Q : Value × List Value → Shared → Prop} (F : Amb C s.heap) (I : Ins z s.heap x Cl dx m) (P : MethA C.K Cl name f) (hm : m name = none) (h : Q (.ref f, [.ref x]) s) :
    wpAny C.M A (getMethod (.ref x) name pl) Q E s := by
  obtain ⟨ox, od, i, l⟩ := I.at
  exact method_fn (F.x) i (plainGet_of P.g).1 (plainGet_of P.g).2 P.a (beq_iff_eq.mp P.t) (by show (lookIn name od).map _ = _; rw [l name, hm]; rfl) h
theorem getStat {pl : Sem Bool} {f : Addr} {Q : Value × List Value → Shared → Prop} (F : Amb C s.heap) (I : Ins z s.heap x Cl dx m) (P : StatA C.K Cl name f) (hm : m name = none) (h : Q (.ref f, []) { s with toks := s.toks + 1 }) :
    wpAny C.M A (getMethod (.ref x) name pl) Q E s := by
  obtain ⟨ox, od, i, l⟩ := I.at
  obtain ⟨p, rest, ha, hn, ht, hp, hy⟩ := P.a
  refine method_usual (F.x) i (plainGet_of P.g).1 (plainGet_of P.g).2 ha hy ?_
  obtain ⟨cd, hc, hd⟩ := any_some P.d
  have hf : findObj C.K Cl (some od) name = some (.bind (.builtin "staticmethod.__get__") (.ref p)) := by
    unfold findObj
    rw [hc, Option.bind_some, ha, Option.bind_some]
    have ho : PySem.W.ownOf cd (some od) name = some none := by unfold PySem.W.ownOf; rw [if_pos hd]; show lookIn name od = _; rw [l name, hm]
    simp only [hn, Option.bind_some, ht, ho, P.c, Bool.false_and, Bool.false_eq_true, if_false]
  exact get_bind (F.x) i (plainGet_of P.g).1 hf (plainGet_of P.g).2 (wpAny_call (sm_get (s := { s with toks := s.toks + 1 }) (F.x) hp (handed_on rfl h)))
theorem setAt {Q : Unit → Shared → Prop} (F : Amb C s.heap) (I : Ins z s.heap x Cl dx m) (P : SetA C.K Cl name) (hz : z ≤ 1000)
    (h : ∀ h', Ins (if (m name).isSome then z else z + 1) h' x Cl dx (fun y => if y = name then some v else m y) → Heap.SameBut dx s.heap h' → Q () { s with heap := h', toks := s.toks + 2 }) :
    wpAny C.M A (setAttr (.ref x) name v) Q E s := by
  obtain ⟨ox, od, i, l⟩ := I.at
  have X := F.x
  refine set_plain X i P.s (osa_open (s := { s with toks := s.toks + 1 }) X i P.p P.t fun b => ?_)
  obtain ⟨cd, hc, hd'⟩ := any_some P.h
  obtain ⟨⟨o, e, c, d, n⟩, r⟩ := I
  obtain ⟨oc, odi, oda, osl⟩ := o
  dsimp only at c d
  subst c d
  refine wpAny_bind (wpAny_pure (wpAny_bind (wpAny_bind (wpAny_loadPart e (wpAny_bind (looks_clsIn X hc _ _ _ _ (fun _ _ e => e) ?_))))))
  rw [hd']
  refine wpAny_pure (a := some dx) (wpAny_bind (wpAny_pure (wpAny_bind ?_)))
  have hne : x ≠ dx := by
    intro q; subst q
    obtain ⟨o2, _, _, e2, c2, _⟩ := r
    rw [e] at e2; cases e2; cases c2
  refine nsSet_d (s := { s with toks := s.toks + 1 }) r fun h' n' hs => ?_
  have n2 := n'
  obtain ⟨o3, es3, ep3, e3, _, _, d3, _, _, b3⟩ := n2
  refine wpAny_bind (wpAny_lookBehind e3 (by rw [d3]; exact pastItsLine_dict (Nat.le_trans b3 (by rw [sizeLine_eq]; split <;> omega))) (wpAny_pure ?_))
  exact h h' ⟨⟨_, (hs.2 x hne).trans e, rfl, rfl, n⟩, n'⟩ hs
end
end Mine
end
section
open PySem PySem.W PyProof.Rows PySem.Calls
set_option Elab.async false
set_option genSizeOf false
set_option maxRecDepth 100000
set_option linter.unusedVariables false
set_option linter.unusedSimpArgs false
namespace Mine
open PySem (Sem Str Value Heap Obj Shared)
inductive AObj
  | list (xs : List Value)
  | tup (xs : List Value)
  | fr (c : String) (m : Str → Option Value)
  | nsd (z : Nat) (m : Str → Option Value)
  | ins (Cl dx : Addr)
  | idict (kvs : List (Int × Value))
  | sdict (kvs : List (Str × Value))
  | iset (S : Int → Bool) (n : Nat)
  | cell (v : Option Value)
  | raw (o : Obj)
  | pd (P : Value → Data → Prop)
noncomputable def AObj.At (C : Cx) (h : Heap) (a : Addr) : AObj → Prop
  | .list xs => h.PlainList a xs.toArray
  | .tup xs => IsTup h a xs.toArray
  | .fr c m => NsC (.type c) h a m
  | .nsd z m => NsD z h a m
  | .ins Cl dx => ∃ o, h.get? a = some o ∧ o.cls = .ref Cl ∧ o.dict = some dx ∧ notCls o = true
  | .idict kvs => h.DictOf (intKind C.prog C.w) a kvs ∧ (a == sysModules) = false
  | .sdict kvs => h.DictOf (strKind C.prog C.w) a kvs ∧ (a == sysModules) = false
  | .iset S n => h.SetOf (intKind C.prog C.w) a S n
  | .cell v => h.IsCell a v
  | .raw o => ∃ o', h.get? a = some o' ∧ SameX o o'
  | .pd P => ∃ o, h.get? a = some o ∧ P o.cls o.data
theorem AObj.At.there {C : Cx} {h : Heap} {a : Addr} {x : AObj} (t : x.At C h a) : h.get? a ≠ none := by
  cases x with
  | list => obtain ⟨_, e⟩ := t; rw [e]; exact fun z => nomatch z
  | tup => obtain ⟨_, e, _⟩ := t; rw [e]; exact fun z => nomatch z
  | fr => exact NsC.some t
  | nsd => exact (NsD.c t).some
  | ins => obtain ⟨_, e, _⟩ := t; rw [e]; exact fun z => nomatch z
  | idict => obtain ⟨⟨_, _, _, e, _⟩, _⟩ := t; rw [e]; exact fun z => nomatch z
  | sdict => obtain ⟨⟨_, _, _, e, _⟩, _⟩ := t; rw [e]; exact fun z => nomatch z
  | iset => obtain ⟨_, _, _, _, e, _⟩ := t; rw [e]; exact fun z => nomatch z
  | cell => obtain ⟨_, e, _⟩ := t; rw [e]; exact fun z => nomatch z
  | raw => obtain ⟨_, e, _⟩ := t; rw [e]; exact fun z => nomatch z
  | pd => obtain ⟨_, e, _⟩ := t; rw [e]; exact fun z => nomatch z
theorem kp_dictOf {prog : Program} {w : World} {K : Type} [DecidableEq K] {knd : KeyKind prog w K} {D : List Addr} {h h' : Heap} {a : Addr} {kvs : List (K × Value)} (x : h.DictOf knd a kvs) (k : Kp D h h') (n : a ∉ D) : h'.DictOf knd a kvs := by
  obtain ⟨o, es, ep, e, c, r⟩ := x
  obtain ⟨o', e', s⟩ := k a o n e
  have q := s.eq (by rw [c.1]; decide)
  subst q
  exact ⟨_, es, ep, e', c, r⟩
theorem kp_setOf {prog : Program} {w : World} {K : Type} [DecidableEq K] {knd : KeyKind prog w K} {D : List Addr} {h h' : Heap} {a : Addr} {S : K → Bool} {z : Nat} (x : h.SetOf knd a S z) (k : Kp D h h') (n : a ∉ D) : h'.SetOf knd a S z := by
  obtain ⟨o, es, ep, t, e, c, r⟩ := x
  obtain ⟨o', e', s⟩ := k a o n e
  have q := s.eq (by rw [c.1]; decide)
  subst q
  exact ⟨_, es, ep, t, e', c, r⟩
theorem AObj.At.kp {C : Cx} {D : List Addr} {h h' : Heap} {a : Addr} {x : AObj} (t : x.At C h a) (k : Kp D h h') (n : a ∉ D) : x.At C h' a := by
  cases x with
  | list => obtain ⟨_, e⟩ := t; obtain ⟨o', e', s⟩ := k a _ n e; have q := s.eq (show Value.type "list" ≠ _ by decide); subst q; exact ⟨_, e'⟩
  | tup => exact kp_tup t k n
  | fr => exact kp_nsc t k n
  | nsd => exact kp_nsd t k n
  | ins => obtain ⟨o, e, c, d, q⟩ := t; obtain ⟨o', e', s⟩ := k a o n e; exact ⟨o', e', s.1.trans c, s.2.1.trans d, by unfold notCls at q ⊢; rw [s.2.2.1]; exact q⟩
  | idict => exact ⟨kp_dictOf t.1 k n, t.2⟩
  | sdict => exact ⟨kp_dictOf t.1 k n, t.2⟩
  | iset => exact kp_setOf t k n
  | cell => exact kp_cell t k n
  | raw o => obtain ⟨o1, e, s⟩ := t; obtain ⟨o2, e', s'⟩ := k a o1 n e; exact ⟨o2, e', s.trans s'⟩
  | pd P => obtain ⟨o1, e, s⟩ := t; obtain ⟨o2, e', s'⟩ := k a o1 n e; exact ⟨o2, e', by rw [s'.1, s'.2.2.1]; exact s⟩
noncomputable abbrev Mp := Str → Option Value
noncomputable def Mp.put (m : Mp) (x : Str) (v : Value) : Mp := fun y => if y = x then some v else m y
noncomputable abbrev Wd := Addr → Option AObj
noncomputable abbrev Lc := List (Addr × AObj)
noncomputable def nth {α : Type} : List α → Nat → Option α
  | [], _ => none
  | x :: _, 0 => some x
  | _ :: l, n + 1 => nth l n
noncomputable def setN {α : Type} : List α → Nat → α → List α
  | [], _, _ => []
  | _ :: l, 0, y => y :: l
  | x :: l, n + 1, y => x :: setN l n y
noncomputable def dropN {α : Type} : List α → Nat → List α
  | [], _ => []
  | _ :: l, 0 => l
  | x :: l, n + 1 => x :: dropN l n
theorem mem_nth {α : Type} : ∀ {l : List α} {k : Nat} {x : α}, nth l k = some x → x ∈ l
  | _ :: _, 0, _, e => by cases e; exact .head _
  | _ :: _, k + 1, _, e => .tail _ (mem_nth (k := k) e)
noncomputable def upd (ρ : Wd) (a : Addr) (x : AObj) : Wd := fun b => if b = a then some x else ρ b
theorem upd_self (ρ : Wd) (a : Addr) (x : AObj) : upd ρ a x a = some x := if_pos rfl
theorem upd_ne (ρ : Wd) {a b : Addr} (x : AObj) (n : b ≠ a) : upd ρ a x b = ρ b := if_neg n
noncomputable def Ext (ρ ρ' : Wd) : Prop := ∀ a x, ρ a = some x → ρ' a = some x
theorem Ext.refl (ρ : Wd) : Ext ρ ρ := fun _ _ e => e
theorem Ext.trans {a b c : Wd} (x : Ext a b) (y : Ext b c) : Ext a c := fun p q e => y p q (x p q e)
noncomputable def ExtB (D : List Addr) (ρ ρ' : Wd) : Prop := ∀ a x, a ∉ D → ρ a = some x → ρ' a = some x
theorem ExtB.refl (D : List Addr) (ρ : Wd) : ExtB D ρ ρ := fun _ _ _ e => e
theorem ExtB.trans {D : List Addr} {a b c : Wd} (x : ExtB D a b) (y : ExtB D b c) : ExtB D a c := fun p q n e => y p q n (x p q n e)
theorem Ext.b {D : List Addr} {a b : Wd} (x : Ext a b) : ExtB D a b := fun p q _ e => x p q e
theorem extB_upd (ρ : Wd) (a : Addr) (x : AObj) : ExtB [a] ρ (upd ρ a x) := fun b y n e => by rw [upd_ne ρ x (fun q => n (by simp [q]))]; exact e
theorem ext_upd {ρ : Wd} {a : Addr} (x : AObj) (n : ρ a = none) : Ext ρ (upd ρ a x) := fun b y e => by
  rw [upd_ne ρ x (fun q => by rw [q, n] at e; cases e)]; exact e
structure Chg (a : Addr) (s s' : Shared) : Prop where
  ext : Heap.ExtBut a s.heap s'.heap
  os : s'.os = s.os
  gens : AllBare s.gens → AllBare s'.gens
structure Grow (s s' : Shared) : Prop where
  keep : ∀ b o, s.heap.get? b = some o → s'.heap.get? b = some o
  os : s'.os = s.os
  gens : AllBare s.gens → AllBare s'.gens
structure St (C : Cx) (ρ : Wd) (τ σ : Lc) (s : Shared) : Prop where
  amb : Amb C s.heap
  os : s.os = C.os
  gens : AllBare s.gens
  out : ∀ a x, ρ a = some x → x.At C s.heap a ∧ (C.hb.get? a = none ∨ ∃ xs, x = .tup xs)
  loc : ∀ p, p ∈ σ ++ τ → p.2.At C s.heap p.1 ∧ C.hb.get? p.1 = none ∧ ρ p.1 = none
  nd : ((σ ++ τ).map (·.1)).Nodup
section
variable {C : Cx} {ρ ρ' : Wd} {τ σ : Lc} {s s' : Shared} {a : Addr} {x y : AObj} {k : Nat}
theorem St.at (S : St C ρ τ σ s) (k : Nat) (e : nth σ k = some (a, x)) : x.At C s.heap a := (S.loc (a, x) (List.mem_append_left _ (mem_nth e))).1
theorem St.ta (S : St C ρ τ σ s) (k : Nat) (e : nth τ k = some (a, x)) : x.At C s.heap a := (S.loc (a, x) (List.mem_append_right _ (mem_nth e))).1
theorem St.o (S : St C ρ τ σ s) (e : ρ a = some x) : x.At C s.heap a := (S.out a x e).1
theorem St.pb (S : St C ρ τ σ s) (e : ρ a = some x) (hx : ∀ xs, x ≠ .tup xs := by intro _ q; cases q) : C.hb.get? a = none := (S.out a x e).2.resolve_right fun ⟨xs, q⟩ => hx xs q
theorem St.fresh (S : St C ρ τ σ s) (n : s.heap.get? a = none) : ρ a = none ∧ (∀ p, p ∈ σ ++ τ → p.1 ≠ a) ∧ C.hb.get? a = none :=
  ⟨by cases q : ρ a with
      | none => rfl
      | some x => exact absurd n (S.out a x q).1.there,
   fun p hp q => absurd n (q ▸ (S.loc p hp).1.there), S.amb.fresh n⟩
theorem nodup_setN {α β : Type} (f : α → β) : ∀ {l : List α} {k : Nat} {x y : α}, nth l k = some x → f y = f x → (setN l k y).map f = l.map f
  | _ :: _, 0, _, _, e, h => by cases e; simp [setN, h]
  | z :: l, k + 1, _, _, e, h => by simp [setN, nodup_setN f (l := l) (k := k) e h]
theorem mem_setN_ne {β : Type} {f : Addr × AObj → β} {x y z : Addr × AObj} : ∀ {l : Lc} {k : Nat}, nth l k = some x → (l.map f).Nodup → z ∈ setN l k y → z = y ∨ (z ∈ l ∧ f z ≠ f x) := by
  intro l
  induction l with
  | nil => intro k e; cases e
  | cons w l ih =>
    intro k e nd hz
    rw [List.map_cons, List.nodup_cons] at nd
    cases k with
    | zero =>
      have e : w = x := Option.some.inj e
      subst e
      rcases List.mem_cons.mp hz with hz | hz
      · exact .inl hz
      · exact .inr ⟨.tail _ hz, fun q => nd.1 (q ▸ List.mem_map_of_mem hz)⟩
    | succ k =>
      rcases List.mem_cons.mp hz with hz | hz
      · refine .inr ⟨hz ▸ .head _, fun q => nd.1 ?_⟩
        rw [← hz, q]; exact List.mem_map_of_mem (mem_nth (l := l) (k := k) e)
      · exact (ih (k := k) e nd.2 hz).imp id fun h => ⟨.tail _ h.1, h.2⟩
theorem setN_append {α : Type} : ∀ {l m : List α} {k : Nat} {x y : α}, nth l k = some x → setN l k y ++ m = setN (l ++ m) k y
  | _ :: _, _, 0, _, _, e => rfl
  | _ :: l, m, k + 1, x, y, e => by simp [setN, setN_append (l := l) (k := k) (x := x) e]
theorem nth_append {α : Type} : ∀ {l m : List α} {k : Nat} {x : α}, nth l k = some x → nth (l ++ m) k = some x
  | _ :: _, _, 0, _, e => e
  | _ :: l, m, k + 1, x, e => nth_append (l := l) (k := k) e
theorem St.setL (S : St C ρ τ σ s) (k : Nat) (e : nth σ k = some (a, x)) (c : Chg a s s') (t : y.At C s'.heap a) : St C ρ τ (setN σ k (a, y)) s' := by
  have kp : Kp [a] s.heap s'.heap := Kp.of_ext c.ext
  have ha := S.loc (a, x) (List.mem_append_left _ (mem_nth e))
  have ea : nth (σ ++ τ) k = some (a, x) := nth_append e
  refine ⟨S.amb.ext ha.2.1 c.ext, c.os.trans S.os, c.gens S.gens, fun b z hz => ⟨(S.out b z hz).1.kp kp (notin1 fun q => ?_), (S.out b z hz).2⟩, fun p hp => ?_, ?_⟩
  · subst q; rw [ha.2.2] at hz; cases hz
  · rw [setN_append e] at hp
    rcases mem_setN_ne (f := (·.1)) ea S.nd hp with rfl | ⟨hm, hne⟩
    · exact ⟨t, ha.2⟩
    · exact ⟨(S.loc p hm).1.kp kp (notin1 hne), (S.loc p hm).2⟩
  · rw [setN_append e, nodup_setN (·.1) ea (y := (a, y)) rfl]; exact S.nd
theorem St.setO (S : St C ρ τ σ s) (e : ρ a = some x) (c : Chg a s s') (t : y.At C s'.heap a) (hx : ∀ xs, x ≠ .tup xs := by intro _ q; cases q) : St C (upd ρ a y) τ σ s' := by
  have kp : Kp [a] s.heap s'.heap := Kp.of_ext c.ext
  have ha : x.At C s.heap a ∧ C.hb.get? a = none := ⟨S.o e, S.pb e hx⟩
  have hne : ∀ p, p ∈ σ ++ τ → p.1 ≠ a := fun p hp q => by have := (S.loc p hp).2.2; rw [q, e] at this; cases this
  refine ⟨S.amb.ext ha.2 c.ext, c.os.trans S.os, c.gens S.gens, fun b z hz => ?_, fun p hp => ⟨(S.loc p hp).1.kp kp (notin1 (hne p hp)), (S.loc p hp).2.1, ?_⟩, S.nd⟩
  · by_cases q : b = a
    · subst q; rw [upd_self] at hz; cases hz; exact ⟨t, .inl ha.2⟩
    · rw [upd_ne ρ y q] at hz; exact ⟨(S.out b z hz).1.kp kp (notin1 q), (S.out b z hz).2⟩
  · rw [upd_ne ρ y (hne p hp)]; exact (S.loc p hp).2.2
theorem St.grow (S : St C ρ τ σ s) (g : Grow s s') : St C ρ τ σ s' :=
  have kp : Kp [] s.heap s'.heap := Kp.of_keep g.keep
  ⟨S.amb.all g.keep, g.os.trans S.os, g.gens S.gens, fun b z hz => ⟨(S.out b z hz).1.kp kp notin0, (S.out b z hz).2⟩, fun p hp => ⟨(S.loc p hp).1.kp kp notin0, (S.loc p hp).2⟩, S.nd⟩
theorem St.chg (S : St C ρ τ σ s) (n : s.heap.get? a = none) (c : Chg a s s') : St C ρ τ σ s' := S.grow ⟨fun b o e => c.ext b o (fun q => by rw [q, n] at e; cases e) e, c.os, c.gens⟩
theorem St.add (S : St C ρ τ σ s) (g : Grow s s') (n : s.heap.get? a = none) (t : x.At C s'.heap a) : St C ρ τ (σ ++ [(a, x)]) s' := by
  have G := S.grow g
  have f := S.fresh n
  refine ⟨G.amb, G.os, G.gens, G.out, fun p hp => ?_, ?_⟩
  · rw [List.append_assoc] at hp
    rcases List.mem_append.mp hp with h | h
    · exact G.loc p (List.mem_append_left _ h)
    · rcases List.mem_append.mp h with h | h
      · cases List.mem_singleton.mp h; exact ⟨t, f.2.2, f.1⟩
      · exact G.loc p (List.mem_append_right _ h)
  · have : ((σ ++ [(a, x)]) ++ τ).Perm ((a, x) :: (σ ++ τ)) := by
      rw [List.append_assoc]; exact List.perm_middle
    refine ((this.map (·.1)).nodup_iff).mpr ?_
    rw [List.map_cons, List.nodup_cons]
    refine ⟨fun h => ?_, S.nd⟩
    obtain ⟨p, hp, q⟩ := List.mem_map.mp h
    exact f.2.1 p hp q
theorem St.addO (S : St C ρ τ σ s) (g : Grow s s') (n : s.heap.get? a = none) (t : x.At C s'.heap a) : St C (upd ρ a x) τ σ s' := by
  have G := S.grow g
  have f := S.fresh n
  refine ⟨G.amb, G.os, G.gens, fun b z hz => ?_, fun p hp => ⟨(G.loc p hp).1, (G.loc p hp).2.1, ?_⟩, S.nd⟩
  · by_cases q : b = a
    · subst q; rw [upd_self] at hz; cases hz; exact ⟨t, .inl f.2.2⟩
    · rw [upd_ne ρ x q] at hz; exact G.out b z hz
  · rw [upd_ne ρ x (f.2.1 p hp)]; exact (G.loc p hp).2.2
theorem St.sub (S : St C ρ τ σ s) {τ' σ' : Lc} (h : (σ' ++ τ').Sublist (σ ++ τ)) : St C ρ τ' σ' s := ⟨S.amb, S.os, S.gens, S.out, fun p hp => S.loc p (h.mem hp), (h.map _).nodup S.nd⟩
theorem St.mono (S : St C ρ τ σ s) (h : Ext ρ' ρ) : St C ρ' τ σ s := ⟨S.amb, S.os, S.gens, fun b z hz => S.out b z (h b z hz), fun p hp => ⟨(S.loc p hp).1, (S.loc p hp).2.1, by
  cases q : ρ' p.1 with
  | none => rfl
  | some z => have := h _ _ q; rw [(S.loc p hp).2.2] at this; cases this⟩, S.nd⟩
theorem St.forget (S : St C ρ τ σ s) : St C ρ τ [] s := S.sub (List.sublist_append_right ..)
theorem St.into (S : St C ρ τ σ s) : St C ρ (σ ++ τ) [] s := ⟨S.amb, S.os, S.gens, S.out, S.loc, S.nd⟩
theorem St.back {σ' : Lc} (S : St C ρ (σ ++ τ) σ' s) : St C ρ τ (σ ++ σ') s := by
  have p : (σ' ++ (σ ++ τ)).Perm ((σ ++ σ') ++ τ) := by
    rw [← List.append_assoc]; exact List.Perm.append_right τ List.perm_append_comm
  exact ⟨S.amb, S.os, S.gens, S.out, fun q hq => S.loc q (p.mem_iff.mpr hq), ((p.map _).nodup_iff).mp S.nd⟩
theorem St.back0 (S : St C ρ (σ ++ τ) [] s) : St C ρ τ σ s := ⟨S.amb, S.os, S.gens, S.out, S.loc, S.nd⟩
theorem St.perm {τ' σ' : Lc} (S : St C ρ τ σ s) (p : (σ ++ τ).Perm (σ' ++ τ')) : St C ρ τ' σ' s := ⟨S.amb, S.os, S.gens, S.out, fun q hq => S.loc q (p.mem_iff.mpr hq), ((p.map _).nodup_iff).mp S.nd⟩
theorem perm_dropN {α : Type} : ∀ {l : List α} {k : Nat} {x : α}, nth l k = some x → l.Perm (x :: dropN l k)
  | _ :: _, 0, _, e => by cases e; exact .refl _
  | z :: l, k + 1, x, e => ((perm_dropN (l := l) (k := k) e).cons z).trans (.swap _ _ _)
theorem St.give (S : St C ρ τ σ s) (k : Nat) (e : nth σ k = some (a, x)) : St C (upd ρ a x) τ (dropN σ k) s := by
  have p : (σ ++ τ).Perm ((a, x) :: (dropN σ k ++ τ)) := List.Perm.append_right τ (perm_dropN e)
  have nd := ((p.map (·.1)).nodup_iff).mp S.nd
  rw [List.map_cons, List.nodup_cons] at nd
  have ha := S.loc (a, x) (List.mem_append_left _ (mem_nth e))
  refine ⟨S.amb, S.os, S.gens, fun b z hz => ?_, fun q hq => ?_, nd.2⟩
  · by_cases h : b = a
    · subst h; rw [upd_self] at hz; cases hz; exact ⟨ha.1, .inl ha.2.1⟩
    · rw [upd_ne ρ x h] at hz; exact S.out b z hz
  · have hq' := S.loc q (p.mem_iff.mpr (.tail _ hq))
    refine ⟨hq'.1, hq'.2.1, ?_⟩
    rw [upd_ne ρ x fun h => nd.1 (by show a ∈ _; rw [← h]; exact List.mem_map_of_mem (f := (·.1)) hq)]
    exact hq'.2.2
theorem St.setT {b : AObj} (S : St C ρ ((a, x) :: τ) σ s) (c : Chg a s s') (t : b.At C s'.heap a) : St C ρ ((a, b) :: τ) σ s' := by
  have p : (σ ++ (a, x) :: τ).Perm (((a, x) :: σ) ++ τ) := List.perm_middle
  have S2 : St C ρ τ ((a, x) :: σ) s := S.perm p
  have S3 := S2.setL 0 rfl c t
  exact S3.perm (List.perm_middle (a := (a, b)) (l₁ := σ) (l₂ := τ)).symm
theorem St.gone (S : St C ρ ((a, x) :: τ) σ s) (c : Chg a s s') : St C ρ τ σ s' := by
  have n : ∀ p, p ∈ σ ++ τ → p.1 ≠ a := fun p hp q => by
    have nd := ((List.perm_middle (a := (a, x)) (l₁ := σ) (l₂ := τ)).map (·.1)).nodup_iff.mp S.nd
    rw [List.map_cons, List.nodup_cons] at nd
    exact nd.1 (by show a ∈ _; rw [← q]; exact List.mem_map_of_mem (f := (·.1)) hp)
  have ha := S.loc (a, x) (List.mem_append_right _ (.head _))
  have kp : Kp [a] s.heap s'.heap := Kp.of_ext c.ext
  have sub : (σ ++ τ).Sublist (σ ++ (a, x) :: τ) := List.Sublist.append_left (List.sublist_cons_self ..) σ
  refine ⟨S.amb.ext ha.2.1 c.ext, c.os.trans S.os, c.gens S.gens, fun b z hz => ⟨(S.out b z hz).1.kp kp (notin1 fun q => ?_), (S.out b z hz).2⟩, fun p hp => ⟨(S.loc p (sub.mem hp)).1.kp kp (notin1 (n p hp)), (S.loc p (sub.mem hp)).2⟩, (sub.map _).nodup S.nd⟩
  subst q; rw [ha.2.2] at hz; cases hz
theorem St.dropT (S : St C ρ ((a, x) :: τ) σ s) : St C ρ τ σ s := S.sub (List.Sublist.append_left (List.sublist_cons_self ..) σ)
theorem St.addT (S : St C ρ τ σ s) (g : Grow s s') (n : s.heap.get? a = none) (t : x.At C s'.heap a) : St C ρ ((a, x) :: τ) σ s' :=
  (S.add g n t).perm (by rw [List.append_assoc]; exact .refl _)
theorem St.none_of_nth (S : St C ρ τ σ s) (k : Nat) (e : nth σ k = some (a, x)) : ρ a = none := (S.loc (a, x) (List.mem_append_left _ (mem_nth e))).2.2
end
end Mine
end
section
open PySem PySem.W PyProof.Rows PySem.Calls
set_option Elab.async false
set_option genSizeOf false
set_option genInjectivity false
set_option maxRecDepth 100000
set_option linter.unusedVariables false
set_option linter.unusedSimpArgs false
namespace Mine
open PySem (Sem Str Value Heap Obj Shared)
structure FnT where
  name : Str
  params : Arguments
  body : List Stmt
  scope : Scope
noncomputable def leaveE (M : Model) (A : Around) (env : Env) (R : Result → Shared → Prop) (e : Value) (s' : Shared) : Prop := wpAny M A (leaving env e) (fun _ s'' => R (.error e) s'') (fun e' s'' => R (.error e') s'') s'
inductive FnAt (K : Frag) (f : Addr) (qual : Str) (F : FnT) (dV : Value) : Prop
  | mk (fo : Obj) (kV doc pm : Value) (an : Option Addr) (cdv ct : Value) (h1 : K.lookup f = some fo) (h2 : fo.data = .func (fnX F.name qual F.params F.body F.scope [] dV kV doc pm an cdv ct)) (h3 : codeIn K cdv qual = true) : FnAt K f qual F dV
noncomputable def cellsAt (L : Addr) (names : List (Str × NameKind)) (cm : Str → Option Value) : Lc := (cellsFrom (L + 1) names []).map fun p => (p.2, AObj.cell (cm p.1))
noncomputable def flOf : Flow → Value
  | .ret v => v
  | _ => .none
section
variable {C : Cx} {ρ : Wd} {τ σ : Lc} {s : Shared} {A : Around} {R : Result → Shared → Prop} {f : Addr} {qual : Str} {F : FnT} {dV : Value} {args : Args} {binds : List (Str × Value)}
theorem enterE (S : St C ρ τ σ s) (hF : FnAt C.K f qual F dV) (hr : A.depth < 1000)
    (hb : ∀ kV doc pm an cdv ct, BindsTo s (fnX F.name qual F.params F.body F.scope [] dV kV doc pm an cdv ct) args binds)
    (h : ∀ L cdv s', St C ρ (σ ++ τ) ((L, .fr "frame" (bindL (kOf F.scope) binds fun _ => none)) :: cellsAt L F.scope.names (bindC (kOf F.scope) binds fun _ => none)) s' → 
      wpAny C.M (A.deeper (envX qual F.scope L f cdv (cellsFrom (L + 1) F.scope.names []))) (execs F.body (envX qual F.scope L f cdv (cellsFrom (L + 1) F.scope.names [])))
        (fun fl s' => R (.ok (.ret (flOf fl))) s')
        (leaveE C.M (A.deeper (envX qual F.scope L f cdv (cellsFrom (L + 1) F.scope.names []))) (envX qual F.scope L f cdv (cellsFrom (L + 1) F.scope.names [])) R) s')
    (hkind : (binds.all fun y => F.scope.names.lookup y.1 == some .local || F.scope.names.lookup y.1 == some .cell) = true := by rfl)
    (hnd : ((cellsFrom 0 F.scope.names []).map (·.1)).Nodup := by decide)
    (hco : F.scope.isCoroutine = false := by rfl) (hgen : F.scope.isGenerator = false := by rfl) (hk : F.scope.kind = .function := by rfl) :
    codeAny C.M A (.call (.ref f) args) R s := by
  obtain ⟨fo, kV, doc, pm, an, cdv, ct, hf, hd, hc⟩ := hF
  have X := S.amb.x
  refine call_c hr (X _ _ hf) hd S.amb.nl (codeRec_of X hc) (hb kV doc pm an cdv ct) hkind (fun L h₁ tk hL i => ?_) hco hgen hk
  have g : Grow s { s with heap := h₁, toks := tk } := ⟨i.keep, rfl, fun x => x⟩
  have fresh : ∀ b, L ≤ b → s.heap.get? b = none := fun b hb => Heap.get?_none_of_le (by omega)
  have S1 := S.into
  refine h L cdv _ ?_
  have base : ∀ (cs : List (Str × Addr)), (∀ p, p ∈ cs → p ∈ cellsFrom (L + 1) F.scope.names []) → cs.Pairwise (fun x y => x.2 ≠ y.2) →
      St C ρ (σ ++ τ) (cs.map fun p => (p.2, AObj.cell (bindC (kOf F.scope) binds (fun _ => none) p.1))) { s with heap := h₁, toks := tk } := by
    intro cs
    induction cs with
    | nil => intro _ _; exact S1.grow g
    | cons p cs ih =>
      intro hm hp
      rw [List.pairwise_cons] at hp
      have T := ih (fun q hq => hm q (.tail _ hq)) hp.2
      have lk : (cellsFrom (L + 1) F.scope.names []).lookup p.1 = some p.2 := lookup_of_mem_nodup (cellsFrom_names F.scope.names 0 (L + 1) [] [] rfl ▸ hnd) (hm p (.head _))
      have ap := i.above p.1 p.2 (hm p (.head _))
      have fr := S.fresh (fresh p.2 (Nat.le_of_lt ap))
      refine ⟨T.amb, T.os, T.gens, T.out, fun q hq => ?_, ?_⟩
      · rcases List.mem_cons.mp hq with rfl | hq
        · exact ⟨i.cell _ _ lk, fr.2.2, fr.1⟩
        · exact T.loc q hq
      · show ((_ :: (_ ++ (σ ++ τ))).map (·.1)).Nodup
        rw [List.map_cons, List.nodup_cons]
        refine ⟨fun hx => ?_, T.nd⟩
        obtain ⟨q, hq, e⟩ := List.mem_map.mp hx
        rcases List.mem_append.mp hq with hq | hq
        · obtain ⟨r, hr, e'⟩ := List.mem_map.mp hq
          subst e'
          exact hp.1 r hr e.symm
        · exact fr.2.1 q hq e
  have T := base (cellsFrom (L + 1) F.scope.names []) (fun _ h => h) i.apart
  have fr := S.fresh (fresh L (Nat.le_refl _))
  refine ⟨T.amb, T.os, T.gens, T.out, fun q hq => ?_, ?_⟩
  · rcases List.mem_cons.mp hq with rfl | hq
    · exact ⟨i.fr, fr.2.2, fr.1⟩
    · exact T.loc q hq
  · show ((_ :: (_ ++ (σ ++ τ))).map (·.1)).Nodup
    rw [List.map_cons, List.nodup_cons]
    refine ⟨fun hx => ?_, T.nd⟩
    obtain ⟨q, hq, e⟩ := List.mem_map.mp hx
    rcases List.mem_append.mp hq with hq | hq
    · obtain ⟨r, hr, e'⟩ := List.mem_map.mp hq
      subst e'
      have := i.above r.1 r.2 hr
      exact Nat.ne_of_gt this e
    · exact fr.2.1 q hq e
theorem enter (S : St C ρ τ σ s) (hF : FnAt C.K f qual F dV) (hr : A.depth < 1000)
    (hb : ∀ kV doc pm an cdv ct, BindsTo s (fnX F.name qual F.params F.body F.scope [] dV kV doc pm an cdv ct) args binds)
    (h : ∀ L cdv s', St C ρ (σ ++ τ) ((L, .fr "frame" (bindL (kOf F.scope) binds fun _ => none)) :: cellsAt L F.scope.names (bindC (kOf F.scope) binds fun _ => none)) s' → 
      wpAny C.M (A.deeper (envX qual F.scope L f cdv (cellsFrom (L + 1) F.scope.names []))) (execs F.body (envX qual F.scope L f cdv (cellsFrom (L + 1) F.scope.names [])))
        (fun fl s' => R (.ok (.ret (flOf fl))) s') (fun _ _ => False) s')
    (hkind : (binds.all fun y => F.scope.names.lookup y.1 == some .local || F.scope.names.lookup y.1 == some .cell) = true := by rfl)
    (hnd : ((cellsFrom 0 F.scope.names []).map (·.1)).Nodup := by decide)
    (hco : F.scope.isCoroutine = false := by rfl) (hgen : F.scope.isGenerator = false := by rfl) (hk : F.scope.kind = .function := by rfl) :
    codeAny C.M A (.call (.ref f) args) R s :=
  enterE S hF hr hb (fun L cdv s' S' => wpAny_mono (h L cdv s' S') (fun _ _ q => q) fun _ _ q => q.elim) hkind hnd hco hgen hk
end
section
variable {C : Cx} {ρ : Wd} {τ σ : Lc} {s : Shared} {A : Around} {E : Value → Shared → Prop} {env : Env} {x : Str} {pos : Pos} {v : Value} {m : Str → Option Value} {fc : String} {Q : Value → Shared → Prop}
theorem frAt {L : Addr} (S : St C ρ τ ((L, .fr fc m) :: σ) s) (e : env.locals = L) : s.heap.Ns env.locals m := by
  subst e
  exact NsC.ns (S.at 0 rfl)
theorem ldL {L : Addr} (S : St C ρ τ ((L, .fr fc m) :: σ) s) (e : env.locals = L) (hv : m x = some v) (h : Q v s)
    (hk : env.scope.kind = .function := by rfl) (hx : env.kindOf x = some .local := by rfl) (hd : (x == ("__debug__" : Str)) = false := by rfl) :
    wpAny C.M A (eval (.Name x pos) env) Q E s := wpAny_Name (wpAny_loadName_local hk hx (frAt S e) hv h) hd
theorem lnL {L : Addr} (S : St C ρ τ ((L, .fr fc m) :: σ) s) (e : env.locals = L) (hv : m x = some v) (h : Q v s)
    (hk : env.scope.kind = .function := by rfl) (hx : env.kindOf x = some .local := by rfl) :
    wpAny C.M A (loadName env x) Q E s := wpAny_loadName_local hk hx (frAt S e) hv h
theorem ldC {c : Addr} (S : St C ρ τ σ s) (k : Nat) (e : nth σ k = some (c, .cell (some v))) (h : Q v s) (hc : env.cells.lookup x = some c := by rfl)
    (hk : env.scope.kind = .function := by rfl) (hx : env.kindOf x = some .cell := by rfl) (hd : (x == ("__debug__" : Str)) = false := by rfl) :
    wpAny C.M A (eval (.Name x pos) env) Q E s := wpAny_Name (wpAny_loadName_cell hk hx hc (S.at k e) h) hd
theorem ldG (S : St C ρ τ σ s) (e : nsIn C.K mainGlobals x = some (some v)) (h : Q v s)
    (hk : env.scope.kind = .function := by rfl) (hx : env.kindOf x = some .globalImplicit := by rfl) (hg : env.globals = mainGlobals := by rfl) (hd : (x == ("__debug__" : Str)) = false := by rfl) :
    wpAny C.M A (eval (.Name x pos) env) Q E s := Name_function_global hk hx (loadGlobal_global (by rw [hg]; exact S.amb.g) (mg_of S.amb.ok.x S.amb.ok.g e) h) hd
theorem ldB (S : St C ρ τ σ s) (e : nsIn C.K mainGlobals x = some none) (hv : bootBuiltins x = some v) (h : Q v s) (hn : x ≠ "__name__" := by decide)
    (hk : env.scope.kind = .function := by rfl) (hx : env.kindOf x = some .globalImplicit := by rfl) (hg : env.globals = mainGlobals := by rfl) (hgb : env.builtins = builtinsNs := by rfl) (hd : (x == ("__debug__" : Str)) = false := by rfl) :
    wpAny C.M A (eval (.Name x pos) env) Q E s :=
  Name_function_global hk hx (loadGlobal_builtin (by rw [hg]; exact S.amb.g) (mg_none_of S.amb.ok.x S.amb.ok.g e) (by rw [hgb]; exact S.amb.b) ((S.amb.ok.bi x hn).trans hv) h) hd
theorem stL {L : Addr} {Q : Unit → Shared → Prop} (S : St C ρ τ ((L, .fr fc m) :: σ) s) (e : env.locals = L)
    (h : ∀ s', St C ρ τ ((L, .fr fc (Mp.put m x v)) :: σ) s' → Q () s')
    (hx : env.kindOf x = some .local := by rfl) (hp : (env.scope.kind == .class || (env.scope.kind == .module && env.locals != env.globals)) = false := by rfl) :
    wpAny C.M A (storeName env x v) Q E s := by
  subst e
  exact storeLocal_c hx (S.at 0 rfl) (fun h' n hs => h _ (S.setL 0 rfl ⟨hs.extBut, rfl, fun x => x⟩ n)) hp
theorem stC {c : Addr} {v₀ : Option Value} {Q : Unit → Shared → Prop} (S : St C ρ τ σ s) (k : Nat) (e : nth σ k = some (c, .cell v₀))
    (h : ∀ s', St C ρ τ (setN σ k (c, .cell (some v))) s' → Q () s') (hc : env.cells.lookup x = some c := by rfl) (hk : env.scope.kind = .function := by rfl) (hx : env.kindOf x = some .cell := by rfl) :
    wpAny C.M A (storeName env x v) Q E s :=
  wpAny_storeName_cell hk hx hc (S.at k e) fun h' hv' hs => h _ (S.setL k e ⟨hs.extBut, rfl, fun x => x⟩ hv')
theorem St.tok (S : St C ρ τ σ s) (n : Nat) : St C ρ τ σ { s with toks := n } := S.grow ⟨fun _ _ e => e, rfl, fun x => x⟩
theorem oIadd {i j : Int} {t u : Tok} (S : St C ρ τ σ s) (h : ∀ t s', St C ρ τ σ s' → Q (.int (i + j) t) s') : wpAny C.M A (inplaceOp .Add (.int i t) (.int j u)) Q E s := wpAny_iadd_int (h _ _ (S.tok _))
theorem cNone {k : Nat} (h : Q .none s) : wpAny C.M A (eval (.Constant .none k pos) env) Q E s := fun _ _ _ => h
theorem cBool {b : Bool} {k : Nat} (h : Q (.bool b) s) : wpAny C.M A (eval (.Constant (.bool b) k pos) env) Q E s := fun _ _ _ => h
theorem cInt {i : Int} {k : Nat} (S : St C ρ τ σ s) (h : ∀ t s', St C ρ τ σ s' → Q (.int i t) s') : wpAny C.M A (eval (.Constant (.int i) k pos) env) Q E s :=
  wpAny_Constant_int (h _ _ (S.grow ⟨fun _ _ e => e, rfl, fun x => x⟩))
end
section
variable {C : Cx} {ρ : Wd} {τ σ : Lc} {s : Shared} {A : Around} {E : Value → Shared → Prop} {name : Str} {v : Value} {z : Nat} {m : Str → Option Value} {x Cl dx : Addr} {expr : Bool} {Q : Value → Shared → Prop}
theorem St.ins (S : St C ρ τ σ s) (ei : ρ x = some (.ins Cl dx)) (ed : ρ dx = some (.nsd z m)) : Ins z s.heap x Cl dx m := ⟨S.o ei, S.o ed⟩
theorem gOwn (S : St C ρ τ σ s) (ei : ρ x = some (.ins Cl dx)) (ed : ρ dx = some (.nsd z m)) (P : OwnA C.K Cl name) (hm : m name = some v) (h : ∀ s', St C ρ τ σ s' → Q v s') (hv : handedIn v = true := by rfl) :
    wpAny C.M A (getAttr (.ref x) name expr) Q E s := getOwn S.amb (S.ins ei ed) P hm hv (h _ (S.tok _))
theorem gCls (S : St C ρ τ σ s) (ei : ρ x = some (.ins Cl dx)) (ed : ρ dx = some (.nsd z m)) (P : ClsA C.K Cl name v) (hm : m name = none) (h : ∀ s', St C ρ τ σ s' → Q v s') :
    wpAny C.M A (getAttr (.ref x) name expr) Q E s := getCls S.amb (S.ins ei ed) P hm (h _ (S.tok _))
theorem gMeth {pl : Sem Bool} {f : Addr} {Q : Value × List Value → Shared → Prop} (S : St C ρ τ σ s) (ei : ρ x = some (.ins Cl dx)) (ed : ρ dx = some (.nsd z m)) (P : MethA C.K Cl name f) (hm : m name = none) (h : Q (.ref f, [.ref x]) s) :
    wpAny C.M A (getMethod (.ref x) name pl) Q E s := getMeth S.amb (S.ins ei ed) P hm h
theorem gStat {pl : Sem Bool} {f : Addr} {Q : Value × List Value → Shared → Prop} (S : St C ρ τ σ s) (ei : ρ x = some (.ins Cl dx)) (ed : ρ dx = some (.nsd z m)) (P : StatA C.K Cl name f) (hm : m name = none) (h : ∀ s', St C ρ τ σ s' → Q (.ref f, []) s') :
    wpAny C.M A (getMethod (.ref x) name pl) Q E s := getStat S.amb (S.ins ei ed) P hm (h _ (S.tok _))
theorem sAttr {Q : Unit → Shared → Prop} (S : St C ρ τ σ s) (ei : ρ x = some (.ins Cl dx)) (ed : ρ dx = some (.nsd z m)) (P : SetA C.K Cl name) (hz : z ≤ 1000)
    (h : ∀ s', St C (upd ρ dx (.nsd (if (m name).isSome then z else z + 1) (Mp.put m name v))) τ σ s' → Q () s') :
    wpAny C.M A (setAttr (.ref x) name v) Q E s :=
  setAt S.amb (S.ins ei ed) P hz fun h' i hs => h _ (S.setO ed ⟨hs.extBut, rfl, fun x => x⟩ i.2)
theorem sAttrE {Q : Unit → Shared → Prop} (S : St C ρ τ σ s) (ei : ρ x = some (.ins Cl dx)) (ed : ρ dx = some (.nsd z m)) (P : SetA C.K Cl name) (hz : z ≤ 1000)
    (h : ∀ ρ' z' s', z' ≤ z + 1 → ρ' = upd ρ dx (.nsd z' (Mp.put m name v)) → St C ρ' τ σ s' → Q () s') : wpAny C.M A (setAttr (.ref x) name v) Q E s :=
  sAttr S ei ed P hz fun s' S => h _ _ s' (by split <;> omega) rfl S
theorem gProp {fget : Addr} (S : St C ρ τ σ s) (ei : ρ x = some (.ins Cl dx)) (ed : ρ dx = some (.nsd z m)) (P : PropA C.K Cl name fget)
    (h : ∀ s', St C ρ τ σ s' → codeAny C.M A.in1 (.call (.ref fget) ⟨[.ref x], []⟩) (fun r s' => match r with | .ok (.ret v) => handedIn v = true ∧ Q v s' | _ => False) s') :
    wpAny C.M A (getAttr (.ref x) name expr) Q E s :=
  getProp S.amb (S.ins ei ed) P (codeAny_mono (h _ (S.tok _)) fun r s' hr => by
    cases r with
    | ok f => cases f with
      | ret v => exact handed_on hr.1 hr.2
      | _ => exact hr
    | error e => exact hr.elim)
end
end Mine
end
section
open PySem PySem.W PyProof.Rows PySem.Calls
set_option Elab.async false
set_option maxRecDepth 100000
set_option linter.unusedVariables false
set_option linter.unusedSimpArgs false
namespace Mine
open PySem (Sem Str Value Heap Obj Shared)
section
variable {C : Cx} {ρ : Wd} {τ σ : Lc} {s : Shared} {A : Around} {E : Value → Shared → Prop} {env : Env} {pos : Pos} {first : List Value} {Q : Value → Shared → Prop}
noncomputable def consQ (v : Value) (Q : List Value → Shared → Prop) (vs : List Value) (s : Shared) : Prop := Q (v :: vs) s
noncomputable def argStep (F : (List Value → Shared → Prop) → (Value → Shared → Prop) → Shared → Prop) (Q : List Value → Shared → Prop) (E : Value → Shared → Prop) (v : Value) (s₁ : Shared) : Prop := F (consQ v Q) E s₁
noncomputable def ArgsTo (C : Cx) (A : Around) (env : Env) (pos : Pos) : List Expr → (List Value → Shared → Prop) → (Value → Shared → Prop) → Shared → Prop
  | [], Q, _, s => Q [] s
  | e :: r, Q, E, s => wpAny C.M A (eval e env) (argStep (ArgsTo C A env pos r) Q E) E s
noncomputable def plainE : Expr → Bool
  | .Starred .. => false
  | _ => true
theorem splicedTo : ∀ (es : List Expr) {Q : List Value → Shared → Prop} {s : Shared}, es.all plainE = true → ArgsTo C A env pos es Q E s → wpAny C.M A (spliced (backTo pos (starEach es env))) Q E s
  | [], _, _, _, h => spliced_none h
  | e :: r, Q, s, hp, h => by
    simp only [List.all_cons, Bool.and_eq_true] at hp
    have he : starEach (e :: r) env = (false, eval e env) :: starEach r env := by cases e <;> first | rfl | cases hp.1
    refine spliced_more (wpAny_mono h (fun v s₁ h₁ => splicedTo r hp.2 h₁) fun _ _ x => x) he
theorem evalArgsTo {f : Value} : ∀ (es : List Expr) {Q : Args → Shared → Prop} {s : Shared}, es.all plainE = true → ArgsTo C A env pos es (fun vs s' => Q ⟨vs, []⟩ s') E s →
    wpAny C.M A (evalArgs f true (backTo pos (starEach es env)) []) Q E s
  | [], _, _, _, h => evalArgs_nil3 h
  | e :: r, Q, s, hp, h => by
    have h' := splicedTo (C := C) (pos := pos) (e :: r) hp h
    simp only [List.all_cons, Bool.and_eq_true] at hp
    have he : starEach (e :: r) env = (false, eval e env) :: starEach r env := by cases e <;> first | rfl | cases hp.1
    rw [he] at h' ⊢
    exact evalArgs_plain h'
theorem plain_any : ∀ (es : List Expr), es.all plainE = true → (backTo pos (starEach es env)).any (·.1) = false
  | [], _ => rfl
  | e :: r, hp => by
    simp only [List.all_cons, Bool.and_eq_true] at hp
    have he : starEach (e :: r) env = (false, eval e env) :: starEach r env := by cases e <;> first | rfl | cases hp.1
    rw [he]
    show (false || (backTo pos (starEach r env)).any (·.1)) = false
    rw [plain_any r hp.2]; rfl
theorem args_mono : ∀ {es : List Expr} {P P' : List Value → Shared → Prop} {s : Shared}, (∀ vs s', P vs s' → P' vs s') → ArgsTo C A env pos es P E s → ArgsTo C A env pos es P' E s
  | [], _, _, _, hm, h => hm _ _ h
  | e :: r, P, P', s, hm, h => wpAny_mono h (fun v s₁ h₁ => args_mono (es := r) (fun vs s' q => hm _ _ q) h₁) fun _ _ x => x
structure CwK (C : Cx) (A : Around) (f : Addr) (first : List Value) (Q E : Value → Shared → Prop) (vs : List Value) (s₁ : Shared) : Prop where
  x : C.K.In s₁.heap
  c : wpAny C.M A (call (.ref f) (first ++ vs)) Q E s₁
noncomputable def callTo (C : Cx) (A : Around) (f : Value) (first : List Value) (Q E : Value → Shared → Prop) (vs : List Value) (s₁ : Shared) : Prop := wpAny C.M A (call f (first ++ vs)) Q E s₁
theorem cwK {f : Addr} {es : List Expr} (hk : keepIn C.K (.ref f) = true)
    (h : ArgsTo C A env pos es (CwK C A f first Q E) E s) (hp : es.all plainE = true := by rfl) :
    wpAny C.M A (callWith pos (.ref f) first (backTo pos (starEach es env)) []) Q E s :=
  callWith_of (P := fun h => C.K.In h) (by rw [plain_any es hp]; rfl) (fun h X => keeps_K hk h X) (evalArgsTo es hp (args_mono (fun _ _ q => ⟨q.x, q.c⟩) h))
theorem cwB {id : String} {es : List Expr}
    (h : ArgsTo C A env pos es (callTo C A (.builtin id) first Q E) E s) (hp : es.all plainE = true := by rfl) :
    wpAny C.M A (callWith pos (.builtin id) first (backTo pos (starEach es env)) []) Q E s :=
  callWith_builtin (plain_any es hp) (evalArgsTo es hp h)
theorem cwT {T : String} {es : List Expr}
    (h : ArgsTo C A env pos es (callTo C A (.type T) first Q E) E s) (hp : es.all plainE = true := by rfl) :
    wpAny C.M A (callWith pos (.type T) first (backTo pos (starEach es env)) []) Q E s :=
  PyProof.Rows.callWith_type (plain_any es hp) (evalArgsTo es hp h)
noncomputable def callQ (Q E : Value → Shared → Prop) (r : Result) (s' : Shared) : Prop := match r with
  | .ok (.ret v) => Q v s'
  | .ok _ => False
  | .error e => E e s'
theorem callC {f : Addr} {vs : List Value} (h : codeAny C.M A (.call (.ref f) ⟨vs, []⟩) (callQ Q E) s) : wpAny C.M A (call (.ref f) vs) Q E s :=
  wpAny_call (codeAny_mono h fun r s' q => by
    cases r with
    | ok f => cases f with
      | ret v => exact q
      | _ => exact q.elim
    | error e => exact q)
noncomputable def call1Q (C : Cx) (A : Around) (env : Env) (pos : Pos) (es : List Expr) (Q E : Value → Shared → Prop) (fv : Value) (s₁ : Shared) : Prop := wpAny C.M A (callWith pos fv [] (backTo pos (starEach es env)) (backToKw pos (keywordEach [] env))) Q E s₁
theorem Call_ {f : Expr} {es : List Expr} (h : wpAny C.M A (eval f env) (call1Q C A env pos es Q E) E s)
    (he : eval (.Call f es [] pos) env = (do let fv ← eval f env; callWith pos fv [] (backTo pos (starEach es env)) (backToKw pos (keywordEach [] env))) := by rfl) :
    wpAny C.M A (eval (.Call f es [] pos) env) Q E s := by
  rw [he]; exact wpAny_bind h
end
section
variable {C : Cx} {A : Around} {env : Env} {E : Value → Shared → Prop} {s : Shared}
noncomputable def attrQ (C : Cx) (A : Around) (attr : Str) (Q E : Value → Shared → Prop) (o : Value) (s₁ : Shared) : Prop := wpAny C.M A (getAttr o attr true) Q E s₁
theorem xAttr {value : Expr} {attr : Str} {pos : Pos} {Q : Value → Shared → Prop} (h : wpAny C.M A (eval value env) (attrQ C A attr Q E) E s)
    (he : eval (.Attribute value attr pos) env = (do
      let o ← eval value env
      standAt pos.atName
      let r ← holding [o] (getAttr o attr true)
      letTemporaryGo value o r
      pure r) := by with_unfolding_all rfl) : wpAny C.M A (eval (.Attribute value attr pos) env) Q E s := Attribute_any_ h he
noncomputable def sub2Q (C : Cx) (A : Around) (value slice : Expr) (o : Value) (Q E : Value → Shared → Prop) (i : Value) (s₂ : Shared) : Prop := wpAny C.M A (subscriptTail value slice o i) Q E s₂
noncomputable def sub1Q (C : Cx) (A : Around) (env : Env) (value slice : Expr) (Q E : Value → Shared → Prop) (o : Value) (s₁ : Shared) : Prop := wpAny C.M A (eval slice env) (sub2Q C A value slice o Q E) E s₁
theorem xSub {value slice : Expr} {pos : Pos} {Q : Value → Shared → Prop} (h : wpAny C.M A (eval value env) (sub1Q C A env value slice Q E) E s) : wpAny C.M A (eval (.Subscript value slice pos) env) Q E s := Subscript_ h
noncomputable def bin2Q (C : Cx) (A : Around) (op : Operator) (a : Value) (Q E : Value → Shared → Prop) (b : Value) (s₂ : Shared) : Prop := wpAny C.M A (binaryOp op a b) Q E s₂
noncomputable def bin1Q (C : Cx) (A : Around) (env : Env) (op : Operator) (r : Expr) (Q E : Value → Shared → Prop) (a : Value) (s₁ : Shared) : Prop := wpAny C.M A (eval r env) (bin2Q C A op a Q E) E s₁
theorem xBin {l r : Expr} {op : Operator} {pos : Pos} {Q : Value → Shared → Prop} (h : wpAny C.M A (eval l env) (bin1Q C A env op r Q E) E s) : wpAny C.M A (eval (.BinOp l op r pos) env) Q E s := wpAny_BinOp h
noncomputable def asgQ (C : Cx) (A : Around) (env : Env) (x : Str) (Q : Flow → Shared → Prop) (E : Value → Shared → Prop) (v : Value) (s₁ : Shared) : Prop := wpAny C.M A (storeName env x v) (fun _ => Q .next) E s₁
theorem xAsg {x : Str} {pos' pos : Pos} {value : Expr} {Q : Flow → Shared → Prop} (h : wpAny C.M A (eval value env) (asgQ C A env x Q E) E s)
    (hs : swapsWith value (some (.Name x pos')) pos.line env = pure false := by rfl) : wpAny C.M A (exec (.Assign [.Name x pos'] value pos) env) Q E s := wpAny_Assign_Name h hs
noncomputable def trQ (C : Cx) (A : Around) (Q : Bool → Shared → Prop) (E : Value → Shared → Prop) (c : Value) (s₃ : Shared) : Prop := wpAny C.M A (truthy c) Q E s₃
noncomputable def cmp2Q (C : Cx) (A : Around) (op : CmpOp) (a : Value) (Q : Bool → Shared → Prop) (E : Value → Shared → Prop) (b : Value) (s₂ : Shared) : Prop := wpAny C.M A (compareOp op a b) (trQ C A Q E) E s₂
noncomputable def cmp1Q (C : Cx) (A : Around) (env : Env) (op : CmpOp) (r : Expr) (Q : Bool → Shared → Prop) (E : Value → Shared → Prop) (a : Value) (s₁ : Shared) : Prop := wpAny C.M A (eval r env) (cmp2Q C A op a Q E) E s₁
theorem xCmp {l r : Expr} {op : CmpOp} {pos : Pos} {whole : Sem Value} {Q : Bool → Shared → Prop} (h : wpAny C.M A (eval l env) (cmp1Q C A env op r Q E) E s)
    (hm : behindInMarks op r = false := by with_unfolding_all rfl) : wpAny C.M A (isTrue (.Compare l [op] [r] pos) env whole) Q E s := wpAny_isTrue_Compare1 h hm
noncomputable def mc2Q (C : Cx) (A : Around) (env : Env) (pos : Pos) (args : List Expr) (kws : List Keyword) (Q E : Value → Shared → Prop) (fx : Value × List Value) (s₂ : Shared) : Prop := wpAny C.M A (callWith pos fx.1 fx.2 (backTo pos (starEach args env)) (backToKw pos (keywordEach kws env))) Q E s₂
noncomputable def mc1Q (C : Cx) (A : Around) (env : Env) (name : Str) (pl : Sem Bool) (pos : Pos) (args : List Expr) (kws : List Keyword) (Q E : Value → Shared → Prop) (ov : Value) (s₁ : Shared) : Prop := wpAny C.M A (getMethod ov name pl) (mc2Q C A env pos args kws Q E) E s₁
theorem xMeth {o : Expr} {name : Str} {apos pos : Pos} {args : List Expr} {kws : List Keyword} {pl : Sem Bool} {Q : Value → Shared → Prop} (h : wpAny C.M A (eval o env) (mc1Q C A env name pl pos args kws Q E) E s)
    (he : eval (.Call (.Attribute o name apos) args kws pos) env = (do
      let ov ← eval o env
      standAt apos.atName
      let (f, first) ← holding [ov] (getMethod ov name pl)
      callWith pos f first (backTo pos (starEach args env)) (backToKw pos (keywordEach kws env))) := by rfl) : wpAny C.M A (eval (.Call (.Attribute o name apos) args kws pos) env) Q E s := methodCall_KW h he
end
end Mine
end
section
open PySem PySem.W PyProof.Rows PySem.Calls
set_option Elab.async false
set_option maxRecDepth 100000
set_option linter.unusedVariables false
set_option linter.unusedSimpArgs false
namespace Mine
open PySem (Sem Str Value Heap Obj Shared)
theorem sz_toArray {n : Nat} {xs : List Value} (h : xs.length ≤ n) (hn : n ≤ 16777216 := by decide) : xs.toArray.size ≤ sizeLine := by rw [sizeLine_eq, List.size_toArray]; exact Nat.le_trans h hn
theorem pushG (s : Shared) (o : Obj) : Grow s { s with heap := s.heap.push o } := ⟨fun _ _ e => Heap.get?_push_of_some o e, rfl, fun x => x⟩
theorem none_size (h : Heap) : h.get? h.objs.size = none := Heap.get?_none_of_le (Nat.le_refl _)
noncomputable abbrev Big : Nat := 100000
section
variable {C : Cx} {ρ : Wd} {τ σ : Lc} {s : Shared} {A : Around} {E : Value → Shared → Prop} {env : Env} {pos : Pos} {first : List Value} {Q : Value → Shared → Prop} {l : Addr} {xs ys : List Value} {v : Value}
theorem St.newList (S : St C ρ τ σ s) (xs : List Value) : St C ρ τ (σ ++ [(s.heap.objs.size, .list xs)]) { s with heap := s.heap.push { cls := .type "list", data := .seq xs.toArray } } :=
  S.add (pushG s _) (none_size _) ⟨_, Heap.get?_push_size _ rfl⟩
theorem St.newTup (S : St C ρ τ σ s) (xs : List Value) : St C ρ τ (σ ++ [(s.heap.objs.size, .tup xs)]) { s with heap := s.heap.push { cls := .type "tuple", data := .seq xs.toArray } } :=
  S.add (pushG s _) (none_size _) ⟨_, Heap.get?_push_size _ rfl, rfl, _, rfl⟩
inductive ListAt (C : Cx) (Q : Value → Shared → Prop) (vs : List Value) (s₁ : Shared) : Prop
  | mk (ρ : Wd) (τ σ : Lc) (S : St C ρ τ σ s₁) (hl : vs.length ≤ Big) (k : ∀ l s', St C ρ τ (σ ++ [(l, .list vs)]) s' → Q (.ref l) s') : ListAt C Q vs s₁
inductive TupAt (C : Cx) (Q : Value → Shared → Prop) (vs : List Value) (s₁ : Shared) : Prop
  | mk (ρ : Wd) (τ σ : Lc) (S : St C ρ τ σ s₁) (hl : vs.length ≤ Big) (k : ∀ l s', St C ρ τ (σ ++ [(l, .tup vs)]) s' → Q (.ref l) s') : TupAt C Q vs s₁
theorem eList {es : List Expr} (h : ArgsTo C A env pos es (ListAt C Q) E s) (hp : es.all plainE = true := by rfl) :
    wpAny C.M A (eval (.List es pos) env) Q E s :=
  wpAny_List (splicedTo es hp (args_mono (fun vs s₁ hq => by
    obtain ⟨ρ, τ, σ, S, hl, k⟩ := hq
    exact ⟨by rw [sizeLine_eq]; exact Nat.le_trans hl (by decide), k _ _ (S.newList vs)⟩) h))
theorem eTup {es : List Expr} {x1} (h : ArgsTo C A env pos es (TupAt C Q) E s) (hp : es.all plainE = true := by rfl) :
    wpAny C.M A (eval (.Tuple es x1 pos) env) Q E s :=
  wpAny_Tuple_spliced (splicedTo es hp (args_mono (fun vs s₁ hq => by
    obtain ⟨ρ, τ, σ, S, hl, k⟩ := hq
    exact ⟨by rw [sizeLine_eq]; exact Nat.le_trans hl (by decide), k _ _ (S.newTup vs)⟩) h))
theorem bListL (S : St C ρ τ σ s) (hl : s.heap.IsList l xs.toArray) (hz : xs.length ≤ Big) (h : ∀ r s', St C ρ τ (σ ++ [(r, .list xs)]) s' → Q (.ref r) s') :
    wpAny C.M A (call (.type "list") [.ref l]) Q E s := by
  obtain ⟨o, ho, hc, n, hd⟩ := hl
  exact call_list_seq l (.inl rfl) ho hc hd (fun h' c' hk hn => h _ _ (S.add ⟨hk, rfl, fun x => x⟩ (none_size _) ⟨_, hn⟩)) (sz_toArray hz)
theorem bListT (S : St C ρ τ σ s) (hl : IsTup s.heap l xs.toArray) (hz : xs.length ≤ Big) (h : ∀ r s', St C ρ τ (σ ++ [(r, .list xs)]) s' → Q (.ref r) s') :
    wpAny C.M A (call (.type "list") [.ref l]) Q E s := by
  obtain ⟨o, ho, hc, n, hd⟩ := hl
  exact call_list_seq l (.inr rfl) ho hc hd (fun h' c' hk hn => h _ _ (S.add ⟨hk, rfl, fun x => x⟩ (none_size _) ⟨_, hn⟩)) (sz_toArray hz)
theorem bTupL (S : St C ρ τ σ s) (hl : s.heap.IsList l xs.toArray) (hz : xs.length ≤ Big) (h : ∀ r s', St C ρ τ (σ ++ [(r, .tup xs)]) s' → Q (.ref r) s') :
    wpAny C.M A (call (.type "tuple") [.ref l]) Q E s := by
  refine call_tuple_list hl (fun h' hk => ?_) (sz_toArray hz)
  have S' : St C ρ τ σ { s with heap := h' } := S.grow ⟨hk, rfl, fun x => x⟩
  exact h _ _ (S'.newTup xs)
theorem bLen (S : St C ρ τ σ s) (hl : s.heap.IsList l xs.toArray) (hz : xs.length ≤ Big) (h : ∀ t s', St C ρ τ σ s' → Q (.int xs.length t) s') :
    wpAny C.M A (call (.builtin "len") [.ref l]) Q E s :=
  call_len_list hl (by rw [List.size_toArray]; have : xs.length ≤ 100000 := hz; ((with_reducible refine oz5 ‹_› ?_); exact rfl)) (by rw [List.size_toArray]; exact h _ _ (S.tok _))
theorem bAppend (S : St C ρ τ σ s) (k : Nat) (e : nth σ k = some (l, .list xs)) (hz : xs.length ≤ Big) (h : ∀ s', St C ρ τ (setN σ k (l, .list (xs ++ [v]))) s' → Q .none s') :
    wpAny C.M A (call (.builtin "list.append") [.ref l, v]) Q E s :=
  wpAny_list_append_plain (S.at k e) (fun h' hl hs => h _ (S.setL k e ⟨hs.extBut, rfl, fun x => x⟩ (by show h'.PlainList l (xs ++ [v]).toArray; rw [← List.push_toArray]; exact hl))) (sz_toArray hz)
theorem noD {a : Addr} {h : Heap} (hl : h.PlainList a xs.toArray) : ∀ b, Value.ref a = .ref b → ∃ o, h.get? b = some o ∧ o.dict = none := fun b e => by cases e; obtain ⟨n, e⟩ := hl; exact ⟨_, e, rfl⟩
theorem gAppend {pl : Sem Bool} {Q : Value × List Value → Shared → Prop} (hl : s.heap.PlainList l xs.toArray) (h : Q (.builtin "list.append", [.ref l]) s) : wpAny C.M A (getMethod (.ref l) "append" pl) Q E s :=
  getMethod_builtin hl.isList.typeIs F.plainAttrs_list F.slot_list_append rfl (noD hl) h
theorem gInsert {pl : Sem Bool} {Q : Value × List Value → Shared → Prop} (hl : s.heap.PlainList l xs.toArray) (h : Q (.builtin "list.insert", [.ref l]) s) : wpAny C.M A (getMethod (.ref l) "insert" pl) Q E s :=
  getMethod_builtin hl.isList.typeIs F.plainAttrs_list F.slot_list_insert rfl (noD hl) h
theorem gIndex {pl : Sem Bool} {Q : Value × List Value → Shared → Prop} (hl : s.heap.PlainList l xs.toArray) (h : Q (.builtin "list.index", [.ref l]) s) : wpAny C.M A (getMethod (.ref l) "index" pl) Q E s :=
  getMethod_builtin hl.isList.typeIs F.plainAttrs_list F.slot_list_index rfl (noD hl) h
theorem sIdx {value slice : Expr} {i : Int} {t : Tok} (hl : s.heap.PlainList l xs.toArray) (hx : xs[i.toNat]? = some v) (h0 : 0 ≤ i) (hz : i < 2 ^ 63) (h : Q v s)
    (hs : subscripted slice false (.ref l) (.int i t) = operate [.ref l, .int i t] (getItem (.ref l) (.int i t)) := by with_unfolding_all rfl) :
    wpAny C.M A (subscriptTail value slice (.ref l) (.int i t)) Q E s :=
  tail_any hl.isList.typeIs slot_list_getitem.lookup (wpAny_getItem_list hl.isList h0 hz (by simpa using hx) h) hs
theorem sIdxT {value slice : Expr} {i : Int} {t : Tok} {j : Nat} (ht : IsTup s.heap l xs.toArray) (hlo : -(2 ^ 63) ≤ i) (hhi : i < 2 ^ 63) (hj : seqIndex? i xs.length = some j) (hx : xs[j]? = some v) (h : Q v s)
    (hs : subscripted slice false (.ref l) (.int i t) = operate [.ref l, .int i t] (getItem (.ref l) (.int i t)) := by with_unfolding_all rfl) :
    wpAny C.M A (subscriptTail value slice (.ref l) (.int i t)) Q E s := item_tupleT ht hlo hhi hj hx h hs
theorem xList (S : St C ρ τ σ s) (hl : s.heap.PlainList l xs.toArray) (hz : xs.length ≤ Big) (h : ∀ r s', St C ρ τ (σ ++ [(r, .list xs)]) s' → Q (.ref r) s') :
    wpAny C.M A (call (.type "list") [.ref l]) Q E s := bListL S hl.isList hz h
theorem xLen (S : St C ρ τ σ s) (hl : s.heap.PlainList l xs.toArray) (hz : xs.length ≤ Big) (h : ∀ t s', St C ρ τ σ s' → Q (.int xs.length t) s') :
    wpAny C.M A (call (.builtin "len") [.ref l]) Q E s := bLen S hl.isList hz h
theorem xTup (S : St C ρ τ σ s) (hl : s.heap.PlainList l xs.toArray) (hz : xs.length ≤ Big) (h : ∀ r s', St C ρ τ (σ ++ [(r, .tup xs)]) s' → Q (.ref r) s') :
    wpAny C.M A (call (.type "tuple") [.ref l]) Q E s := bTupL S hl.isList hz h
end
end Mine
end
section
open PySem PySem.W PyProof.Rows PySem.Calls
set_option Elab.async false
set_option maxRecDepth 100000
set_option linter.unusedVariables false
set_option linter.unusedSimpArgs false
namespace Mine
open PySem (Sem Str Value Heap Obj Shared)
section
variable {C : Cx} {ρ : Wd} {τ σ : Lc} {s : Shared} {A : Around} {E : Value → Shared → Prop} {env : Env} {pos : Pos} {first : List Value} {Q : Value → Shared → Prop} {l : Addr} {xs ys : List Value} {v : Value}
theorem plainUpd {h : Heap} {l : Addr} {its : Array Value} {n : Nat} (ho : h.get? l = some { cls := .type "list", data := .seq its n }) (f : Array Value → Array Value) :
    (h.update l (Obj.mapSeq f)).PlainList l (f its) := ⟨_, by rw [Heap.get?_update_self _ ho rfl]; rfl⟩
theorem bSplice {sl t : Addr} {i : Nat} {t1 t2 : Tok} {Q : Unit → Shared → Prop} (S : St C ρ τ σ s) (k : Nat) (e : nth σ k = some (l, .list xs)) (hs : s.heap.IsSliceOf sl (.int i t1) (.int i t2) .none)
    (ht : IsTup s.heap t ys.toArray) (hi : i ≤ xs.length) (hz : xs.length + ys.length ≤ Big) (h : ∀ s', St C ρ τ (setN σ k (l, .list (xs.take i ++ ys ++ xs.drop i))) s' → Q () s') :
    wpAny C.M A (setItem (.ref l) (.ref sl) (.ref t)) Q E s := by
  have hl : s.heap.PlainList l xs.toArray := S.at k e
  obtain ⟨n, ho⟩ := hl
  have hT : s.TypeIs (.ref l) "list" := ⟨_, ho, rfl⟩
  obtain ⟨os, hos, hcs, hds⟩ := id hs
  have hTs : s.TypeIs (.ref sl) "slice" := ⟨os, hos, hcs⟩
  obtain ⟨ot, hot, hct, nt, hdt⟩ := id ht
  have hTt : s.TypeIs (.ref t) "tuple" := ⟨ot, hot, hct⟩
  have hlt : l ≠ t := ne_of_cls ho hot (by rw [hct]; exact (by decide : Value.type "list" ≠ .type "tuple"))
  unfold setItem
  try with_reducible refine wpAny_holding ?_
  first | refine wpAny_bind (wpAny_pure ?_) | skip
  refine wpAny_bind (wpAny_sequenceKey hT (by decide) ?_)
  refine wpAny_bind (wpAny_callSpecial?_slot (name := Str.ofString "__setitem__") hT slot_list_setitem
    (wpAny_call_entry slot_list_setitem hT entry_list_setitem ?_ (args_list_setitem _ _ _)))
  show wpAny _ _ (Builtin.List.listSubscript? (.ref sl) >>= _) _ _ s
  refine wpAny_bind ?_
  unfold Builtin.List.listSubscript?
  refine wpAny_bind (wpAny_specialOf hTs slice_no_index ?_)
  simp only [Option.isNone_none, if_true]
  refine wpAny_pure ?_
  show wpAny _ _ (typeOf (.ref sl) >>= _) _ _ s
  refine wpAny_bind (wpAny_typeOf hTs ?_)
  rw [if_neg (by decide)]
  rw [listSliceParts_eq]
  refine wpAny_bind (wpAny_bind (wpAny_field hos hds (x := .none) rfl (wpAny_bind (wpAny_listPart (k := none) .none ?_))))
  rw [if_neg (by exact Bool.false_ne_true)]
  refine wpAny_bind (wpAny_field hos hds (x := .int i t1) rfl (wpAny_bind (wpAny_listPart (.int i t1) ?_)))
  refine wpAny_bind (wpAny_field hos hds (x := .int i t2) rfl (wpAny_bind (wpAny_listPart (.int i t2) (wpAny_pure ?_))))
  have hsame : Builtin.List.listSameRef (.ref l) (.ref t) = false := by show (l == t) = false; simpa using hlt
  simp only [hsame, Bool.false_eq_true, if_false]
  unfold Builtin.List.listAllItems
  refine wpAny_bind (wpAny_bind (wpAny_typeOf hTt ?_))
  rw [if_pos (by rfl)]
  have items : ∀ {a : Addr} {o : Obj} {its : Array Value} {n : Nat} {Q : Array Value → Shared → Prop}, s.heap.get? a = some o → o.data = .seq its n → Q its s → wpAny (model C.prog C.w) A.in1 (Builtin.List.listItems (.ref a)) Q E s := by
    intro a o its n Q h1 h2 q
    unfold Builtin.List.listItems
    exact wpAny_bind (wpAny_seqItems h1 h2 (wpAny_pure q))
  refine wpAny_bind (wpAny_seqItems hot hdt (wpAny_pure ?_))
  refine wpAny_bind (items ho rfl ?_)
  refine wpAny_bind (wpAny_of_eq (sliceIndices_raw (some (i : Int)) (some (i : Int)) none xs.toArray.size (by simp)) ?_)
  have hb : sliceBounds (some (i : Int)) (some (i : Int)) none xs.toArray.size = ((i : Int), (i : Int), (1 : Int)) := by
    unfold sliceBounds
    have h1 : ¬ ((i : Int) < 0) := by omega
    have h2 : max (0 : Int) (min (i : Int) (xs.length : Int)) = i := by omega
    simp only [Option.getD_none, h1, if_false, List.size_toArray, h2]
    rfl
  rw [hb]
  dsimp only
  rw [if_pos (by rfl)]
  refine wpAny_bind (wpAny_rule ?_)
  have ht1 : Builtin.List.listTooLong (xs.toArray.size + ys.toArray.size) = false := by
    unfold Builtin.List.listTooLong
    rw [List.size_toArray, List.size_toArray, sizeLine_eq]
    have : xs.length + ys.length ≤ 100000 := hz
    exact decide_eq_false (by omega)
  rw [ht1]
  rw [if_neg Bool.false_ne_true]
  have hm : (max (i : Int) (i : Int)).toNat = i := by omega
  have e1 : (xs.toArray.extract 0 (i : Int).toNat ++ ys.toArray ++ xs.toArray.extract (max (i : Int) (i : Int)).toNat xs.toArray.size) = (xs.take i ++ ys ++ xs.drop i).toArray := by
    rw [hm, Int.toNat_natCast]
    simp
    exact List.take_of_length_le (by simp)
  refine wpAny_bind (wpAny_updateSeq ho rfl ?_ (sz_toArray (n := Big) (by have : xs.length + ys.length ≤ 100000 := hz; show xs.length ≤ 100000; ((with_reducible refine oz3 ‹_› ?_); exact rfl))) ?_)
  · refine wpAny_bind (wpAny_letGo (wpAny_pure ⟨.none, rfl, wpAny_pure (h _ (S.setL k e ⟨(Heap.SameBut.update ..).extBut, rfl, fun x => x⟩ ?_))⟩))
    have := plainUpd ho (fun xs => xs.extract 0 (i : Int).toNat ++ ys.toArray ++ xs.extract (max (i : Int) (i : Int)).toNat xs.size)
    rw [e1] at this
    exact this
  · rw [e1, List.size_toArray, sizeLine_eq]
    have : xs.length + ys.length ≤ 100000 := hz
    simp only [List.length_append, List.length_take, List.length_drop]
    omega
theorem bInsert0 {t : Tok} (S : St C ρ τ σ s) (k : Nat) (e : nth σ k = some (l, .list xs)) (hz : xs.length ≤ Big) (h : ∀ s', St C ρ τ (setN σ k (l, .list (v :: xs))) s' → Q .none s') :
    wpAny C.M A (call (.builtin "list.insert") [.ref l, .int 0 t, v]) Q E s := by
  have hl : s.heap.PlainList l xs.toArray := S.at k e
  obtain ⟨n, ho⟩ := hl
  have hT : s.TypeIs (.ref l) "list" := ⟨_, ho, rfl⟩
  refine wpAny_call_entry F.slot_list_insert hT F.entry_list_insert ?_ (F.args_list_insert_3 _ _ _)
  have e1 : (Array.push (xs.toArray.extract 0 0) v ++ xs.toArray.extract 0 xs.toArray.size) = (v :: xs).toArray := by simp
  have e2 : ∀ its : Array Value, (let k := if (0:Int) < 0 then ((0:Int) + its.size).toNat else min (0:Int).toNat its.size; (its.extract 0 k).push v ++ its.extract k its.size) = ((its.extract 0 0).push v ++ its.extract 0 its.size) := by
    intro its; simp
  show wpAny _ _ (updateSeq l (fun xs => let k := if (0:Int) < 0 then ((0:Int) + xs.size).toNat else min (0:Int).toNat xs.size; (xs.extract 0 k).push v ++ xs.extract k xs.size) >>= fun _ => ret .none) _ _ s
  refine wpAny_bind (wpAny_updateSeq ho rfl ?_ (sz_toArray hz) ?_)
  · refine wpAny_pure ⟨.none, rfl, h _ (S.setL k e ⟨(Heap.SameBut.update ..).extBut, rfl, fun x => x⟩ ?_)⟩
    have := plainUpd ho (fun xs => let k := if (0:Int) < 0 then ((0:Int) + xs.size).toNat else min (0:Int).toNat xs.size; (xs.extract 0 k).push v ++ xs.extract k xs.size)
    rw [e2, e1] at this
    exact this
  · rw [e2, e1, List.size_toArray, sizeLine_eq]
    have : xs.length ≤ 100000 := hz
    simp only [List.length_cons]
    ((with_reducible refine oz1 ‹_› ?_); exact rfl)
end
end Mine
end
section
open PySem PySem.W PyProof.Rows PySem.Calls
set_option Elab.async false
set_option maxRecDepth 100000
set_option linter.unusedVariables false
set_option linter.unusedSimpArgs false
namespace Mine
open PySem (Sem Str Value Heap Obj Shared)
structure Wk (C : Cx) (A : Around) (I : Addr) (it : Nat → AObj) (vs : List Value) (dep : Heap → Prop) : Prop where
  item : ∀ (i : Nat) (v : Value) (s : Shared) (Q : Option Value → Shared → Prop) (E : Value → Shared → Prop), vs[i]? = some v → (it i).At C s.heap I → dep s.heap →
    (∀ s', Chg I s s' → (it (i + 1)).At C s'.heap I → Q (some v) s') → wpAny C.M A (pyNext (.ref I)) Q E s
  done : ∀ (s : Shared) (Q : Option Value → Shared → Prop) (E : Value → Shared → Prop), (it vs.length).At C s.heap I → dep s.heap →
    (∀ s', Chg I s s' → Q none s') → wpAny C.M A (pyNext (.ref I)) Q E s
  self : ∀ (i : Nat) (s : Shared) (Q : Value → Shared → Prop) (E : Value → Shared → Prop), (it i).At C s.heap I → Q (.ref I) s → wpAny C.M A (pyIter (.ref I)) Q E s
structure Wp (C : Cx) (A : Around) (I : Addr) (it : Nat → AObj) (n : Nat) (P : Nat → Value → Prop) (dep : Heap → Prop) : Prop where
  item : ∀ (i : Nat) (s : Shared) (Q : Option Value → Shared → Prop) (E : Value → Shared → Prop), i < n → (it i).At C s.heap I → dep s.heap →
    (∀ v s', P i v → Chg I s s' → (it (i + 1)).At C s'.heap I → Q (some v) s') → wpAny C.M A (pyNext (.ref I)) Q E s
  done : ∀ (s : Shared) (Q : Option Value → Shared → Prop) (E : Value → Shared → Prop), (it n).At C s.heap I → dep s.heap →
    (∀ s', Chg I s s' → Q none s') → wpAny C.M A (pyNext (.ref I)) Q E s
  self : ∀ (i : Nat) (s : Shared) (Q : Value → Shared → Prop) (E : Value → Shared → Prop), (it i).At C s.heap I → Q (.ref I) s → wpAny C.M A (pyIter (.ref I)) Q E s
theorem Wk.wp {C : Cx} {A : Around} {I : Addr} {it : Nat → AObj} {vs : List Value} {dep : Heap → Prop} (W : Wk C A I it vs dep) : Wp C A I it vs.length (fun i v => vs[i]? = some v) dep where
  item := fun i s Q E hi h1 h2 h3 => W.item i vs[i] s Q E (List.getElem?_eq_getElem hi) h1 h2 fun s' => h3 vs[i] s' (List.getElem?_eq_getElem hi)
  done := W.done
  self := W.self
noncomputable abbrev litO (l : Addr) (i : Nat) : AObj := .pd fun c d => c = .type "list_iterator" ∧ d = .fields #[.ref l, .int i 0]
noncomputable abbrev titO (l : Addr) (i : Nat) : AObj := .pd fun c d => c = .type "tuple_iterator" ∧ d = .fields #[.ref l, .int i 0]
theorem ne_it_list {h : Heap} {I l : Addr} {xs : Array Value} {c : Value} {d : Data} (x : h.PlainList l xs) (y : ∃ o, h.get? I = some o ∧ o.cls = c ∧ o.data = d) (n : Value.type "list" ≠ c) : l ≠ I := by
  obtain ⟨_, e⟩ := x
  obtain ⟨_, e', q, _⟩ := y
  exact ne_of_cls e e' (by rw [q]; exact n)
theorem ne_it_tup {h : Heap} {I l : Addr} {xs : Array Value} {c : Value} {d : Data} (x : IsTup h l xs) (y : ∃ o, h.get? I = some o ∧ o.cls = c ∧ o.data = d) (n : Value.type "tuple" ≠ c) : l ≠ I := by
  obtain ⟨_, e, c1, _⟩ := x
  obtain ⟨_, e', q, _⟩ := y
  exact ne_of_cls e e' (by rw [c1, q]; exact n)
theorem Wk.list {C : Cx} {A : Around} (hh : A.handled = none) (I l : Addr) (xs : List Value) : Wk C A I (litO l) xs (fun h => h.PlainList l xs.toArray) where
  item := fun i v s Q E hv hi hl hQ => wpAny_pyNext_list_item (i := i) hi hl.isList (x := v) (by simpa using hv) fun h' hi' hs => hQ _ ⟨hs.extBut, rfl, fun x => x⟩ hi'
  done := fun s Q E hi hl hQ => wpAny_pyNext_list_end (i := xs.length) hh hi hl.isList (by simp) fun h' hs => hQ _ ⟨hs, rfl, fun x => x⟩
  self := fun i s Q E hi h => wpAny_pyIter_listiter (i := i) hi h
theorem Wk.tup {C : Cx} {A : Around} (hh : A.handled = none) (I l : Addr) (xs : List Value) : Wk C A I (titO l) xs (fun h => IsTup h l xs.toArray) where
  item := fun i v s Q E hv hi hl hQ => wpAny_pyNext_tuple_item (i := i) hi hl (x := v) (by simpa using hv) fun h' hi' hs => hQ _ ⟨hs.extBut, rfl, fun x => x⟩ hi'
  done := fun s Q E hi hl hQ => wpAny_pyNext_tuple_end (i := xs.length) hh hi hl (by simp) fun h' hs => hQ _ ⟨hs, rfl, fun x => x⟩
  self := fun i s Q E hi h => wpAny_pyIter_tupleiter (i := i) hi h
noncomputable def turnWp (M : Model) (A : Around) (target : Expr) (I : Addr) (body : List Stmt) (env : Env) (Qb : Flow → Shared → Prop) (Eb : Value → Shared → Prop) (v : Value) (s : Shared) : Prop :=
  wpAny M A (letOwnedTupleGo target (.ref I) v) (fun _ s₁ => wpAny M A (assign target env v) (fun _ s₂ => wpAny M A (execs body env) Qb Eb s₂) Eb s₁) Eb s
section
variable {C : Cx} {τ : Lc} {s : Shared} {A : Around} {E E' : Value → Shared → Prop} {env : Env} {pos : Pos} {Q : Value → Shared → Prop} {R : Result → Shared → Prop}
theorem itList {ρ : Wd} {σ : Lc} {l : Addr} {xs : List Value} (S : St C ρ τ σ s) (hl : s.heap.PlainList l xs.toArray) (h : ∀ I s', St C ρ ((I, litO l 0) :: τ) σ s' → s'.heap.PlainList l xs.toArray → Q (.ref I) s') :
    wpAny C.M A (pyIter (.ref l)) Q E s :=
  wpAny_pyIter_list hl.isList (h _ _ (S.addT (pushG s _) (none_size _) ⟨_, Heap.get?_push_size _ rfl, rfl, rfl⟩) (hl.at fun o e => Heap.get?_push_of_some _ e))
theorem itTup {ρ : Wd} {σ : Lc} {l : Addr} {xs : List Value} (S : St C ρ τ σ s) (hl : IsTup s.heap l xs.toArray) (h : ∀ I s', St C ρ ((I, titO l 0) :: τ) σ s' → IsTup s'.heap l xs.toArray → Q (.ref I) s') :
    wpAny C.M A (pyIter (.ref l)) Q E s :=
  wpAny_pyIter_tuple hl (h _ _ (S.addT (pushG s _) (none_size _) ⟨_, Heap.get?_push_size _ rfl, rfl, rfl⟩) (hl.keeps fun b o e => Heap.get?_push_of_some _ e))
theorem forP_st {α : Type} {target : Expr} {body orelse : List Stmt} {I : Addr} {it : Nat → AObj} {n : Nat} {F : Nat → Value → Prop} {dep : Heap → Prop} (W : Wp C A I it n F dep) (ρ : α → Wd) (σ : α → Lc) (P : Nat → α → Prop)
    (hE : ∀ e s', E' e s' → notedBy C.M A env (fun e s' => R (.error e) s') e s')
    (hdep : ∀ i x a s, P i x → St C (ρ x) ((I, a) :: τ) (σ x) s → dep s.heap)
    (x0 : α) (S : St C (ρ x0) ((I, it 0) :: τ) (σ x0) s) (h0 : P 0 x0)
    (turn : ∀ i x v s, i < n → F i v → P i x → St C (ρ x) ((I, it (i + 1)) :: τ) (σ x) s →
      wpAny C.M A (letOwnedTupleGo target (.ref I) v) (fun _ s₁ => wpAny C.M A (assign target env v) (fun _ s₂ => wpAny C.M A (execs body env) (fun f s₃ => match f with
        | .next | .cont => ∃ x', P (i + 1) x' ∧ St C (ρ x') ((I, it (i + 1)) :: τ) (σ x') s₃
        | .brk => False
        | .ret v => R (.ok (.ret v)) s₃) E' s₂) E' s₁) E' s)
    (fin : ∀ x s, P n x → St C (ρ x) τ (σ x) s → wpAny C.M A (execs orelse env) (fun f s₃ => R (.ok f) s₃) E' s) :
    codeAny C.M A (.forLoop target (.ref I) body orelse env) R s := by
  refine codeAny_forLoop_any (fun k s => ∃ i x, k = n + 1 - i ∧ i ≤ n ∧ P i x ∧ St C (ρ x) ((I, it i) :: τ) (σ x) s) ?_ (n + 1 - 0) ⟨0, x0, rfl, Nat.zero_le _, h0, S⟩
  rintro k s ⟨i, x, rfl, hi, hP, S⟩
  rcases Nat.lt_or_eq_of_le hi with hlt | heq
  · refine W.item i s _ _ hlt (S.ta 0 rfl) (hdep i x _ s hP S) fun v s' hv c t => ?_
    refine wpAny_mono (turn i x v s' hlt hv hP (S.setT c t)) (fun _ s₁ h₁ => ?_) hE
    refine wpAny_mono h₁ (fun _ s₂ h₂ => ?_) hE
    refine wpAny_mono h₂ (fun f s₃ h₃ => ?_) hE
    cases f with
    | next => obtain ⟨x', a, b⟩ := h₃; exact ⟨n + 1 - (i + 1), by (with_reducible exact oz7 ‹_›), i + 1, x', rfl, by (with_reducible exact Nat.succ_le_of_lt ‹_›), a, b⟩
    | cont => obtain ⟨x', a, b⟩ := h₃; exact ⟨n + 1 - (i + 1), by (with_reducible exact oz7 ‹_›), i + 1, x', rfl, by (with_reducible exact Nat.succ_le_of_lt ‹_›), a, b⟩
    | brk => exact h₃.elim
    | ret v => exact h₃
  · subst heq
    refine W.done s _ _ (S.ta 0 rfl) (hdep _ x _ s hP S) fun s' c => ?_
    exact wpAny_mono (fin x s' hP (S.gone c)) (fun _ _ q => q) hE
theorem forLoop_st {α : Type} {target : Expr} {body orelse : List Stmt} {I : Addr} {it : Nat → AObj} {vs : List Value} {dep : Heap → Prop} (W : Wk C A I it vs dep) (ρ : α → Wd) (σ : α → Lc) (P : Nat → α → Prop)
    (hE : ∀ e s', E' e s' → notedBy C.M A env (fun e s' => R (.error e) s') e s')
    (hdep : ∀ i x a s, P i x → St C (ρ x) ((I, a) :: τ) (σ x) s → dep s.heap)
    (x0 : α) (S : St C (ρ x0) ((I, it 0) :: τ) (σ x0) s) (h0 : P 0 x0)
    (turn : ∀ i x v s, vs[i]? = some v → P i x → St C (ρ x) ((I, it (i + 1)) :: τ) (σ x) s →
      wpAny C.M A (letOwnedTupleGo target (.ref I) v) (fun _ s₁ => wpAny C.M A (assign target env v) (fun _ s₂ => wpAny C.M A (execs body env) (fun f s₃ => match f with
        | .next | .cont => ∃ x', P (i + 1) x' ∧ St C (ρ x') ((I, it (i + 1)) :: τ) (σ x') s₃
        | .brk => False
        | .ret v => R (.ok (.ret v)) s₃) E' s₂) E' s₁) E' s)
    (fin : ∀ x s, P vs.length x → St C (ρ x) τ (σ x) s → wpAny C.M A (execs orelse env) (fun f s₃ => R (.ok f) s₃) E' s) :
    codeAny C.M A (.forLoop target (.ref I) body orelse env) R s :=
  forP_st W.wp ρ σ P hE hdep x0 S h0 (fun i x v s _ hv => turn i x v s hv) fin
theorem forLoop_t {α : Type} {target : Expr} {body orelse : List Stmt} {I : Addr} {it : Nat → AObj} {vs : List Value} {dep : Heap → Prop} (W : Wk C A I it vs dep) (ρ : α → Wd) (σ : α → Lc) (P : Nat → α → Prop)
    (hE : ∀ e s', E' e s' → notedBy C.M A env (fun e s' => R (.error e) s') e s')
    (hdep : ∀ i x a s, P i x → St C (ρ x) ((I, a) :: τ) (σ x) s → dep s.heap)
    (x0 : α) (S : St C (ρ x0) ((I, it 0) :: τ) (σ x0) s) (h0 : P 0 x0)
    (turn : ∀ i (Qb : Flow → Shared → Prop) (Eb : Value → Shared → Prop), (∀ x' s', P (i + 1) x' → St C (ρ x') ((I, it (i + 1)) :: τ) (σ x') s' → Qb .next s') → (∀ e s', E' e s' → Eb e s') → (∀ v s', R (.ok (.ret v)) s' → Qb (.ret v) s') →
      ∀ x v s, vs[i]? = some v → P i x → St C (ρ x) ((I, it (i + 1)) :: τ) (σ x) s → turnWp C.M A target I body env Qb Eb v s)
    (fin : ∀ x s, P vs.length x → St C (ρ x) τ (σ x) s → wpAny C.M A (execs orelse env) (fun f s₃ => R (.ok f) s₃) E' s) :
    codeAny C.M A (.forLoop target (.ref I) body orelse env) R s :=
  forLoop_st W ρ σ P hE hdep x0 S h0 (fun i x v s hv hP S => turn i _ _ (fun x' s' p q => ⟨x', p, q⟩) (fun _ _ h => h) (fun _ _ h => h) x v s hv hP S) fin
theorem while_st {α : Type} {test : Expr} {body orelse : List Stmt} (ρ : α → Wd) (σ : α → Lc) (P : α → Prop) (μ : α → Nat)
    (hE : ∀ e s', E' e s' → notedBy C.M A env (fun e s' => R (.error e) s') e s')
    (x0 : α) (S : St C (ρ x0) τ (σ x0) s) (h0 : P x0)
    (turn : ∀ x s, P x → St C (ρ x) τ (σ x) s → wpAny C.M A (isTrue test env (eval test env)) (fun b s₂ =>
        if b then wpAny C.M A (execs body env) (fun f s₃ => match f with
            | .next | .cont => ∃ x', μ x' < μ x ∧ P x' ∧ St C (ρ x') τ (σ x') s₃
            | .brk => False
            | .ret v => R (.ok (.ret v)) s₃) E' s₂
        else wpAny C.M A (execs orelse env) (fun f s₃ => R (.ok f) s₃) E' s₂) E' s) :
    codeAny C.M A (.whileLoop test body orelse env) R s := by
  refine codeAny_whileLoop (fun n s => ∃ x, n = μ x ∧ P x ∧ St C (ρ x) τ (σ x) s) ?_ (μ x0) ⟨x0, rfl, h0, S⟩
  rintro n s ⟨x, rfl, hP, S⟩
  refine wpAny_mono (turn x s hP S) (fun b s₂ h₂ => ?_) hE
  cases b with
  | false => exact wpAny_mono h₂ (fun _ _ q => q) hE
  | true =>
    refine wpAny_mono h₂ (fun f s₃ h₃ => ?_) hE
    cases f with
    | next => obtain ⟨x', a, b, c⟩ := h₃; exact ⟨_, a, x', rfl, b, c⟩
    | cont => obtain ⟨x', a, b, c⟩ := h₃; exact ⟨_, a, x', rfl, b, c⟩
    | brk => exact h₃.elim
    | ret v => exact h₃
theorem noE {M : Model} {A : Around} {env : Env} {Y : Value → Shared → Prop} : ∀ (e : Value) (s' : Shared), (fun _ _ => False : Value → Shared → Prop) e s' → notedBy M A env Y e s' := fun _ _ f => f.elim
end
end Mine
end
section
open PySem PySem.W PyProof.Rows PySem.Calls
set_option Elab.async false
set_option maxRecDepth 100000
set_option linter.unusedVariables false
set_option linter.unusedSimpArgs false
namespace Mine
open PySem (Sem Str Value Heap Obj Shared)
theorem own_stop : ownMembersOf (.type "StopIteration") [] = #[] := by with_unfolding_all rfl
noncomputable def HdH (A : Around) (h : Heap) : Prop := A.handled = none ∨ ∃ e oe ve, A.handled = some (.ref e) ∧ h.get? e = some oe ∧ oe.data = .fields ve ∧ ve[2]? = some .none
theorem entry_unchain : entryFor table "proto.unchain" = some Builtin.«proto.unchain» := entryFor_of_tree (by kernel_rfl)
section
variable {α : Type} {prog : Program} {w : World} {A : Around} {E : Value → Shared → Prop} {s : Shared}
theorem wpAny_raiseNew_ref {a : Addr} {o : Obj} {vs : Array Value} {Q : α → Shared → Prop} (hd : A.handled = none ∨ ∃ e oe ve, A.handled = some (.ref e) ∧ e ≠ a ∧ s.heap.get? e = some oe ∧ oe.data = .fields ve ∧ ve[2]? = some .none)
    (ho : s.heap.get? a = some o) (hda : o.data = .fields vs) (hz : 2 < vs.size) (hz' : vs.size ≤ 100)
    (h : ∀ h', Heap.SameBut a s.heap h' → (∃ o', h'.get? a = some o' ∧ o'.cls = o.cls) → E (.ref a) { s with heap := h' }) : wpAny (model prog w) A (raiseNew (.ref a) : Sem α) Q E s := by
  unfold raiseNew
  refine wpAny_bind (wpAny_handled ?_)
  rcases hd with hn | ⟨e, oe, ve, hh, hne, he, hde, h2⟩
  · rw [hn]
    exact wpAny_bind (wpAny_pure (wpAny_throw (h _ (.refl ..) ⟨o, ho, rfl⟩)))
  · rw [hh]
    have hb : (Value.ref e != Value.ref a) = true := by simpa using hne
    dsimp only
    rw [if_pos hb]
    refine wpAny_bind (wpAny_holding (wpAny_runValue (codeAny_builtin entry_unchain ?_)))
    unfold Builtin.«proto.unchain»
    dsimp only
    refine wpAny_bind (wpAny_field he hde h2 ?_)
    rw [if_pos (by rfl)]
    refine wpAny_pure ?_
    show wpAny _ _ (setField (.ref a) 2 (.ref e) >>= fun _ => throw (Value.ref a)) _ _ s
    refine wpAny_bind (wpAny_setField ho hda hz (wpAny_throw (h _ (Heap.SameBut.update ..) ⟨_, Heap.get?_update_self _ ho (Obj.isFreed_of_fields (Obj.data_mapFields hda _)), Obj.cls_mapFields ..⟩)))
theorem pyNext_list_end {it l : Addr} {i : Nat} {items} {Q : Option Value → Shared → Prop} (hh : HdH A s.heap)
    (hit : s.heap.IsListIter it l i) (hl : s.heap.IsList l items) (hx : items[i]? = none)
    (hQ : ∀ h', Heap.ExtBut it s.heap h' → Q none { s with heap := h' }) : wpAny (model prog w) A (pyNext (.ref it)) Q E s := by
  obtain ⟨o, ho, hc, hd⟩ := id hit
  obtain ⟨ol, hol, _, nl, hdl⟩ := hl
  unfold pyNext
  refine wpAny_bind (wpAny_attempt (wpAny_callSpecial?_slot (name := Str.ofString "__next__") hit.typeIs slot_listiter_next
    (wpAny_call_entry slot_listiter_next hit.typeIs entry_listiter_next ?_ (args_listiter_next _))))
  show wpAny _ _ (field (.ref it) 0 >>= _) _ _ s
  refine wpAny_bind (wpAny_field ho hd (x := .ref l) rfl ?_)
  show wpAny _ _ (if (Value.ref l == Value.none) = true then _ else _) _ _ s
  rw [if_neg (show ¬ ((Value.ref l == Value.none) = true) from Bool.false_ne_true)]
  show wpAny _ _ (field (.ref it) 1 >>= _) _ _ s
  refine wpAny_bind (wpAny_field ho hd (x := .int i 0) rfl ?_)
  show wpAny _ _ (seqItems? (.ref l) >>= _) _ _ s
  refine wpAny_bind (wpAny_seqItems hol hdl ?_)
  simp only [Int.toNat_natCast, hx]
  refine wpAny_bind (wpAny_rule (wpAny_bind (wpAny_setField ho hd (by simp) ?_)))
  show wpAny _ _ (newExc (.type "StopIteration") [] >>= _) _ _ _
  refine wpAny_bind ?_
  simp only [newExc, newTuple]
  refine wpAny_bind (wpAny_newObj_type ?_ (by size_fits))
  refine wpAny_bind (m := firstArgMember _ _) (wpAny_of_eq (a := Value.none) (by first | rfl | (simp only [firstArgMember]; rfl)) ?_)
  refine wpAny_newObj_type ?_ (by size_fits)
  have hk : ∀ e oe ve, s.heap.get? e = some oe → oe.data = .fields ve → ve[2]? = some .none → e ≠ it := fun e oe ve h1 h2 h3 q => by
    subst q; rw [ho] at h1; cases h1; rw [hd] at h2; cases h2; cases h3
  refine wpAny_raiseNew_ref (A := A.in1) ?_ (Heap.get?_push_size _ rfl) rfl (by rw [own_stop]; simp) (by rw [own_stop]; simp) fun h' hs hc' => ?_
  · refine hh.imp id fun ⟨e, oe, ve, x, y, z, u⟩ => ⟨e, oe, ve, x, ?_, ?_, z, u⟩
    · exact fun q => by
        have := Heap.lt_size y
        rw [q, Heap.size_push, Heap.size_update] at this
        exact absurd this (Nat.not_lt_of_le (Nat.le_succ _))
    · exact Heap.get?_push_of_some _ (Heap.get?_push_of_some _ ((Heap.get?_update_other _ _ (Ne.symm (hk e oe ve y z u))).trans y))
  · obtain ⟨o', ho', hc'⟩ := hc'
    refine wpAny_bind (wpAny_isInstance (T := "StopIteration") (b := true) ⟨_, ho', hc'⟩ isSubtype_stop ?_)
    refine wpAny_pure (hQ _ fun b o e1 e2 => ?_)
    have e3 := Heap.lt_size e2
    exact (hs.2 b (by rw [Heap.size_push, Heap.size_update]; exact Nat.ne_of_lt (Nat.lt_succ_of_lt e3))).trans (Heap.get?_push_of_some _ (Heap.get?_push_of_some _ ((Heap.get?_update_other _ _ (Ne.symm e1)).trans e2)))
theorem pyNext_rev_end {it l : Addr} {Q : Option Value → Shared → Prop} (hh : HdH A s.heap) (hit : s.heap.IsRevIter it l (-1))
    (hQ : ∀ h', Heap.ExtBut it s.heap h' → Q none { s with heap := h' }) : wpAny (model prog w) A (pyNext (.ref it)) Q E s := by
  obtain ⟨o, ho, hc, hd⟩ := id hit
  unfold pyNext
  refine wpAny_bind (wpAny_attempt (wpAny_callSpecial?_slot (name := Str.ofString "__next__") hit.typeIs F.slot_lri_next
    (wpAny_call_entry F.slot_lri_next hit.typeIs F.entry_lri_next ?_ (F.args_lri_next_1 _))))
  unfold Builtin.«list_reverseiterator.__next__»
  refine wpAny_bind (wpAny_of_eq (a := (Value.ref it, [])) rfl ?_)
  try dsimp only
  refine wpAny_bind (wpAny_field ho hd (x := rawInt (-1)) rfl ?_)
  show wpAny _ _ (if (-1 : Int) < 0 then _ else _) _ _ s
  rw [if_pos (by decide)]
  refine wpAny_bind (wpAny_rule ?_)
  first
  | show wpAny _ _ (newExc (.type "StopIteration") [] >>= _) _ _ _
  | (refine wpAny_bind ?_; show wpAny _ _ (newExc (.type "StopIteration") [] >>= _) _ _ _)
  refine wpAny_bind ?_
  simp only [newExc, newTuple]
  refine wpAny_bind (wpAny_newObj_type ?_ (by size_fits))
  refine wpAny_bind (m := firstArgMember _ _) (wpAny_of_eq (a := Value.none) (by first | rfl | (simp only [firstArgMember]; rfl)) ?_)
  refine wpAny_newObj_type ?_ (by size_fits)
  refine wpAny_raiseNew_ref (A := A.in1) ?_ (Heap.get?_push_size _ rfl) rfl (by rw [own_stop]; simp) (by rw [own_stop]; simp) fun h' hs hc' => ?_
  · refine hh.imp id fun ⟨e, oe, ve, x, y, z, u⟩ => ⟨e, oe, ve, x, ?_, ?_, z, u⟩
    · exact fun q => by
        have := Heap.lt_size y
        rw [q, Heap.size_push] at this
        exact absurd this (Nat.not_lt_of_le (Nat.le_succ _))
    · exact Heap.get?_push_of_some _ (Heap.get?_push_of_some _ y)
  · obtain ⟨o', ho', hc'⟩ := hc'
    refine wpAny_bind (wpAny_isInstance (T := "StopIteration") (b := true) ⟨_, ho', hc'⟩ isSubtype_stop ?_)
    refine wpAny_pure (hQ _ fun b o e1 e2 => ?_)
    have e3 := Heap.lt_size e2
    exact (hs.2 b (by rw [Heap.size_push]; exact Nat.ne_of_lt (Nat.lt_succ_of_lt e3))).trans (Heap.get?_push_of_some _ (Heap.get?_push_of_some _ e2))
end
noncomputable abbrev ritO (l : Addr) (n i : Nat) : AObj := .pd fun c d => c = .type "list_reverseiterator" ∧ d = .fields #[.ref l, rawInt ((n : Int) - 1 - (i : Int))]
theorem Wk.listH {C : Cx} {A : Around} (I l : Addr) (xs : List Value) : Wk C A I (litO l) xs (fun h => h.PlainList l xs.toArray ∧ HdH A h) where
  item := fun i v s Q E hv hi hl hQ => wpAny_pyNext_list_item (i := i) hi hl.1.isList (x := v) (by simpa using hv) fun h' hi' hs => hQ _ ⟨hs.extBut, rfl, fun x => x⟩ hi'
  done := fun s Q E hi hl hQ => pyNext_list_end (i := xs.length) hl.2 hi hl.1.isList (by simp) fun h' hs => hQ _ ⟨hs, rfl, fun x => x⟩
  self := fun i s Q E hi h => wpAny_pyIter_listiter (i := i) hi h
theorem Wk.revH {C : Cx} {A : Around} (I l : Addr) (xs : List Value) : Wk C A I (ritO l xs.length) xs.reverse (fun h => h.PlainList l xs.toArray ∧ HdH A h) where
  item := fun i v s Q E hv hi hl hQ => by
    have hlt : i < xs.length := by
      have := (List.getElem?_eq_some_iff.mp hv).1
      simpa using this
    have e : (xs.length : Int) - 1 - (i : Int) = ((xs.length - 1 - i : Nat) : Int) := by omega
    have hit : s.heap.IsRevIter I l ((xs.length - 1 - i : Nat) : Int) := by rw [← e]; exact hi
    refine wpAny_pyNext_rev_item hit hl.1.isList (x := v) ?_ fun h' hi' hs => hQ _ ⟨hs.extBut, rfl, fun x => x⟩ ?_
    · rw [List.getElem?_reverse hlt] at hv; simpa using hv
    · have e2 : ((xs.length - 1 - i : Nat) : Int) - 1 = (xs.length : Int) - 1 - ((i + 1 : Nat) : Int) := by omega
      rw [e2] at hi'
      exact hi'
  done := fun s Q E hi hl hQ => by
    have hit : s.heap.IsRevIter I l (-1) := by
      have e : (xs.length : Int) - 1 - (xs.reverse.length : Int) = -1 := by rw [List.length_reverse]; omega
      rw [← e]; exact hi
    exact pyNext_rev_end hl.2 hit fun h' hs => hQ _ ⟨hs, rfl, fun x => x⟩
  self := fun i s Q E hi h => wpAny_pyIter_revIter (i := (xs.length : Int) - 1 - (i : Int)) hi h
section
variable {C : Cx} {ρ : Wd} {τ σ : Lc} {s : Shared} {A : Around} {E : Value → Shared → Prop} {Q : Value → Shared → Prop} {l : Addr} {xs : List Value}
theorem xRev (S : St C ρ τ σ s) (hl : s.heap.PlainList l xs.toArray) (h : ∀ I s', St C ρ ((I, ritO l xs.length 0) :: τ) σ s' → s'.heap.PlainList l xs.toArray → Q (.ref I) s') :
    wpAny C.M A (call (.type "reversed") [.ref l]) Q E s :=
  call_reversed_list hl.isList (h _ _ (S.addT (pushG s _) (none_size _) ⟨_, Heap.get?_push_size _ rfl, rfl, by
    show Data.fields #[.ref l, rawInt ((xs.toArray.size : Int) - 1)] = .fields #[.ref l, rawInt ((xs.length : Int) - 1 - ((0 : Nat) : Int))]
    simp⟩) (hl.at fun o e => Heap.get?_push_of_some _ e))
noncomputable abbrev excO : AObj := .pd fun _ d => ∃ vs, d = .fields vs ∧ vs[2]? = some .none
noncomputable def Hd (A : Around) (ρ : Wd) : Prop := A.handled = none ∨ ∃ e, A.handled = some (.ref e) ∧ ρ e = some excO
theorem Hd.h (x : Hd A ρ) (S : St C ρ τ σ s) : HdH A s.heap := x.imp id fun ⟨e, a, b⟩ => let ⟨o, c, vs, d, f⟩ := S.o b; ⟨e, o, vs, a, c, d, f⟩
theorem Hd.ext {ρ' : Wd} (x : Hd A ρ) (e : Ext ρ ρ') : Hd A ρ' := x.imp id fun ⟨a, b, c⟩ => ⟨a, b, e _ _ c⟩
end
end Mine
end
section
open PySem PySem.W PyProof.Rows PySem.Calls
set_option Elab.async false
set_option maxRecDepth 100000
set_option linter.unusedVariables false
set_option linter.unusedSimpArgs false
namespace Mine
open PySem (Sem Str Value Heap Obj Shared)
theorem Chg.of {a : Addr} {s : Shared} {h' : Heap} {n : Nat} (x : Heap.SameBut a s.heap h') : Chg a s { s with heap := h', toks := n } := ⟨x.extBut, rfl, fun x => x⟩
theorem intIs {prog : Program} {w : World} (k : Int) (t : Tok) : (intKind prog w).is k (.int k t) = true := intKind_is prog w k t
theorem strIs {prog : Program} {w : World} (k : Str) (t : Tok) : (strKind prog w).is k (.str k t) = true := strKind_is prog w k t
section
variable {C : Cx} {ρ : Wd} {τ σ : Lc} {s : Shared} {A : Around} {E : Value → Shared → Prop} {env : Env} {pos : Pos} {Q : Value → Shared → Prop} {a d : Addr} {v : Value} {t : Tok}
theorem xSet0 (S : St C ρ τ σ s) (h : ∀ r s', St C ρ τ (σ ++ [(r, .iset (fun _ => false) 0)]) s' → Q (.ref r) s') : wpAny C.M A (call (.type "set") []) Q E s :=
  call_set_0 fun led => h _ _ (S.add (pushG s _) (none_size _) ⟨_, #[], 0, _, Heap.get?_push_size _ rfl, ⟨rfl, rfl, rfl⟩, rfl, fun e he => by simp at he, fun k => by simp, by decide, by rfl, rfl⟩)
theorem gSetAdd {pl : Sem Bool} {P : Int → Bool} {n : Nat} {Q : Value × List Value → Shared → Prop} (hS : (AObj.iset P n).At C s.heap a) (h : Q (.builtin "set.add", [.ref a]) s) : wpAny C.M A (getMethod (.ref a) "add" pl) Q E s := getMethod_set_add hS h
theorem bSetAdd {P : Int → Bool} {n : Nat} {k : Int} (S : St C ρ τ σ s) (i : Nat) (e : nth σ i = some (a, .iset P n)) (hn : n + 1 < 4096)
    (h : ∀ s', St C ρ τ (setN σ i (a, .iset (fun k' => P k' || decide (k' = k)) (if P k then n else n + 1))) s' → Q .none s') : wpAny C.M A (call (.builtin "set.add") [.ref a, .int k t]) Q E s :=
  call_set_add (intIs k t) rfl (S.at i e) hn fun h' hs x => h _ (S.setL i e (.of hs) x)
theorem oNotInSet {P : Int → Bool} {n : Nat} {k : Int} (S : St C ρ τ σ s) (hS : (AObj.iset P n).At C s.heap a) (h : ∀ s', St C ρ τ σ s' → Q (.bool (!P k)) s') : wpAny C.M A (compareOp .NotIn (.int k t) (.ref a)) Q E s :=
  wpAny_notInSet_of (intIs k t) rfl hS (h _ (S.tok _))
theorem St.newDict (S : St C ρ τ σ s) (h : Heap.get? s.heap sysModules ≠ none) : St C ρ τ (σ ++ [(s.heap.objs.size, .idict [])]) { s with heap := s.heap.push { cls := .type "dict", data := .dict #[] } } :=
  S.add (pushG s _) (none_size _) ⟨Heap.DictOf.new _, by
    simpa using fun q : s.heap.objs.size = sysModules => h (q ▸ none_size _)⟩
theorem St.sys (S : St C ρ τ σ s) : s.heap.get? sysModules ≠ none := fun n => S.amb.ok.sys (S.amb.fresh n)
theorem eDict0 (S : St C ρ τ σ s) (h : ∀ r s', St C ρ τ (σ ++ [(r, .idict [])]) s' → Q (.ref r) s') : wpAny C.M A (eval (.Dict [] [] pos) env) Q E s :=
  wpAny_Dict_empty (h _ _ (S.newDict S.sys))
theorem hDSet {kvs : List (Int × Value)} {k : Int} {Q : Unit → Shared → Prop} (hd : (AObj.idict kvs).At C s.heap d) (hz : kvs.length ≤ Big) (h : ∀ s', Chg d s s' → (AObj.idict (stored kvs k v)).At C s'.heap d → Q () s') :
    wpAny C.M A (setItem (.ref d) (.int k t) v) Q E s :=
  wpAny_setItem_pairs (intIs k t) hd.1 (fun h' x hs => h _ (.of hs) ⟨x, hd.2⟩) (by rw [sizeLine_eq]; exact Nat.le_trans hz (by decide))
theorem sDGet {value slice : Expr} {kvs : List (Int × Value)} {k : Int} (S : St C ρ τ σ s) (hd : (AObj.idict kvs).At C s.heap d) (hv : valueAt kvs k = some v) (h : ∀ s', St C ρ τ σ s' → Q v s')
    (hs : subscripted slice false (.ref d) (.int k t) = operate [.ref d, .int k t] (getItem (.ref d) (.int k t)) := by with_unfolding_all rfl) :
    wpAny C.M A (subscriptTail value slice (.ref d) (.int k t)) Q E s :=
  tail_any hd.1.typeIs slot_dict_getitem.lookup (wpAny_getItem_of (intIs k t) hd.1.mapOf hv (h _ (S.tok _))) hs
theorem oNotInD {kvs : List (Int × Value)} {k : Int} (S : St C ρ τ σ s) (hd : (AObj.idict kvs).At C s.heap d) (h : ∀ s', St C ρ τ σ s' → Q (.bool (!(valueAt kvs k).isSome)) s') : wpAny C.M A (compareOp .NotIn (.int k t) (.ref d)) Q E s :=
  wpAny_notIn_of (intIs k t) hd.2 hd.1.mapOf (h _ (S.tok _))
theorem noDD {kvs : List (Int × Value)} {h : Heap} (hd : (AObj.idict kvs).At C h d) : ∀ b, Value.ref d = .ref b → ∃ o, h.get? b = some o ∧ o.dict = none := fun b e => by
  cases e; obtain ⟨⟨o, _, _, e, c, _⟩, _⟩ := hd; exact ⟨o, e, c.2.1⟩
theorem gDGet {pl : Sem Bool} {kvs : List (Int × Value)} {Q : Value × List Value → Shared → Prop} (hd : (AObj.idict kvs).At C s.heap d) (h : Q (.builtin "dict.get", [.ref d]) s) : wpAny C.M A (getMethod (.ref d) "get" pl) Q E s :=
  getMethod_builtin hd.1.typeIs F.plainAttrs_dict F.slot_dict_get F.type_dict_get (noDD hd) h
theorem gDClear {pl : Sem Bool} {kvs : List (Int × Value)} {Q : Value × List Value → Shared → Prop} (hd : (AObj.idict kvs).At C s.heap d) (h : Q (.builtin "dict.clear", [.ref d]) s) : wpAny C.M A (getMethod (.ref d) "clear" pl) Q E s :=
  getMethod_builtin hd.1.typeIs F.plainAttrs_dict F.slot_dict_clear F.type_dict_clear (noDD hd) h
theorem gDValues {pl : Sem Bool} {kvs : List (Int × Value)} {Q : Value × List Value → Shared → Prop} (hd : (AObj.idict kvs).At C s.heap d) (h : Q (.builtin "dict.values", [.ref d]) s) : wpAny C.M A (getMethod (.ref d) "values" pl) Q E s :=
  getMethod_builtin hd.1.typeIs F.plainAttrs_dict F.slot_dict_values F.type_dict_values (noDD hd) h
theorem bDGet2 {kvs : List (Int × Value)} {k : Int} {dflt : Value} (S : St C ρ τ σ s) (hd : (AObj.idict kvs).At C s.heap d) (h : ∀ s', St C ρ τ σ s' → Q ((valueAt kvs k).getD dflt) s') :
    wpAny C.M A (call (.builtin "dict.get") [.ref d, .int k t, dflt]) Q E s :=
  call_meetsIn F.slot_dict_get hd.1.typeIs F.entry_dict_get (F.args_dict_get_3 _ _ _) (meets_dict_get_default (intKind C.prog C.w) d (intIs k t) hd.2 dflt) ⟨_, hd.1.mapOf, h _ (S.tok _)⟩
theorem hDClear {kvs : List (Int × Value)} (hd : (AObj.idict kvs).At C s.heap d) (hz : kvs.length ≤ Big) (h : ∀ s', Chg d s s' → (AObj.idict []).At C s'.heap d → Q .none s') :
    wpAny C.M A (call (.builtin "dict.clear") [.ref d]) Q E s :=
  call_meetsIn F.slot_dict_clear hd.1.typeIs F.entry_dict_clear (F.args_dict_clear_1 _) (meets_dict_clear (intKind C.prog C.w) d) ⟨kvs, hd.1, by rw [sizeLine_eq]; exact Nat.le_trans hz (by decide), fun h' x hs => h _ ⟨hs.extBut, rfl, fun x => x⟩ ⟨x, hd.2⟩⟩
theorem hDDel {kvs : List (Int × Value)} {k : Int} {Q : Unit → Shared → Prop} (hd : (AObj.idict kvs).At C s.heap d) (hv : (valueAt kvs k).isSome = true) (hz : kvs.length ≤ Big) (h : ∀ s', Chg d s s' → (AObj.idict (without kvs k)).At C s'.heap d → Q () s') :
    wpAny C.M A (delItem (.ref d) (.int k t)) Q E s := by
  unfold delItem
  try with_reducible refine wpAny_holding ?_
  refine wpAny_bind (wpAny_sequenceKey hd.1.typeIs (by decide) ?_)
  refine wpAny_bind (wpAny_callSpecial?_slot (name := Str.ofString "__delitem__") hd.1.typeIs F.slot_dict_delitem
    (call_meetsIn F.slot_dict_delitem hd.1.typeIs F.entry_dict_delitem (F.args_dict_delitem_2 _ _) (meets_dict_delitem_pairs (intKind C.prog C.w) d (intIs k t)) ⟨kvs, hd.1, by rw [sizeLine_eq]; exact Nat.le_trans hz (by decide), hv, fun h' x hs => ?_⟩))
  exact wpAny_pure (h _ (.of hs) ⟨x, hd.2⟩)
theorem bDValues {kvs : List (Int × Value)} (S : St C ρ τ σ s) (hd : (AObj.idict kvs).At C s.heap d) (h : ∀ r s', St C ρ τ (σ ++ [(r, .pd fun c dt => c = .type "dict_values" ∧ dt = .fields #[.ref d])]) s' → Q (.ref r) s') :
    wpAny C.M A (call (.builtin "dict.values") [.ref d]) Q E s :=
  call_meetsIn F.slot_dict_values hd.1.typeIs F.entry_dict_values (F.args_dict_values_1 _) (meets_dict_values (intKind C.prog C.w) d hd.2) ⟨⟨kvs, hd.1⟩, h _ _ (S.add (pushG s _) (none_size _) ⟨_, Heap.get?_push_size _ rfl, rfl, rfl⟩)⟩
end
end Mine
end
section
open PySem PySem.W PyProof.Rows PySem.Calls
set_option Elab.async false
set_option maxRecDepth 100000
set_option linter.unusedVariables false
set_option linter.unusedSimpArgs false
namespace Mine
open PySem (Sem Str Value Heap Obj Shared)
structure MkA (K : Frag) (Cl fI : Addr) : Prop where
  m : makesIn K Cl = true
  i : findIn K (.ref Cl) "__init__" = some (some (.ref fI))
  t : typeIn K (.ref fI) = some (.type "function")
section
variable {C : Cx} {ρ : Wd} {τ σ : Lc} {s : Shared} {A : Around} {E : Value → Shared → Prop} {R : Result → Shared → Prop}
theorem mk_St {Cl fI : Addr} {rest : List Value} {kw : List (Str × Value)} (S : St C ρ τ σ s) (M : MkA C.K Cl fI)
    (h : ∀ x dx s', ρ x = none → ρ dx = none → x ≠ dx → St C (upd (upd ρ dx (.nsd 0 fun _ => none)) x (.ins Cl dx)) τ σ s' →
      codeAny C.M (A.under (.builtin "type.__call__" ⟨.ref Cl :: rest, kw⟩)) (.call (.ref fI) ⟨.ref x :: rest, kw⟩) (InitBack x R) s') :
    codeAny C.M A (.call (.ref Cl) ⟨rest, kw⟩) R s := by
  obtain ⟨hh, g, d, t, os⟩ := s
  have X := S.amb.x
  refine make_core (makes_of X M.m) (looks_findIn X M.i) (fun self => bind_fn X self M.t) (.inl rfl) ?_
  have S1 := S.addO (pushG _ emptyDict) (none_size _) (x := .nsd 0 fun _ => none) (nsd_new hh)
  have n1 := S.fresh (none_size _)
  have e : (hh.push emptyDict).objs.size = hh.objs.size + 1 := Heap.size_push ..
  have S2 := S1.addO (pushG _ (instObj Cl hh.objs.size)) (none_size _) (x := .ins Cl hh.objs.size) ⟨_, Heap.get?_push_size _ rfl, rfl, rfl, rfl⟩
  have n2 := S1.fresh (none_size _)
  have hne : hh.objs.size + 1 ≠ hh.objs.size := Nat.succ_ne_self _
  refine h (hh.objs.size + 1) hh.objs.size _ ?_ n1.1 hne ?_
  · have := n2.1
    dsimp only at this
    rw [e, upd_ne _ _ hne] at this
    exact this
  · dsimp only at S2
    rw [e] at S2
    exact S2
end
section
variable {C : Cx} {τ : Lc} {s : Shared} {A : Around} {E E' : Value → Shared → Prop} {env : Env} {Q : Value → Shared → Prop}
noncomputable abbrev tests (ifs : List Expr) (env : Env) : Sem Bool := forIn ifs true fun c r => if r = true then do let ok ← isTrue c env (eval c env); pure (ForInStep.yield ok) else pure (ForInStep.yield r)
theorem tests_nil {M : Model} {Q : Bool → Shared → Prop} (h : Q true s) : wpAny M A (tests [] env) Q E s := by
  unfold tests; rw [List.forIn_nil]; exact wpAny_pure h
theorem tests_one {M : Model} {c : Expr} {Q : Bool → Shared → Prop} (h : wpAny M A (isTrue c env (eval c env)) Q E s) : wpAny M A (tests [c] env) Q E s := by
  unfold tests
  rw [List.forIn_cons]
  refine wpAny_bind ?_
  rw [if_pos rfl]
  refine wpAny_bind (wpAny_mono h (fun b s₁ hq => wpAny_pure ?_) fun _ _ x => x)
  dsimp only
  rw [List.forIn_nil]
  exact wpAny_pure hq
theorem compEnv_St {ρ : Wd} {σ : Lc} {scope : Scope} {g : Addr} {cl : List (Str × Addr)} {qual : Str} {Q : Env → Shared → Prop} (S : St C ρ τ σ s) (hc : (scope.names.all fun x => x.2 != .cell) = true)
    (h : ∀ L s', St C ρ τ ((L, .fr "dict" fun _ => none) :: σ) s' → Q { scope := scope, locals := L, globals := g, cells := cl, qual := qual, func := none, code := env.code, frame := env.frame, builtins := env.builtins } s') :
    wpAny C.M A (newFunctionEnv scope g cl [] qual none .none (some env)) Q E s := by
  simp only [newFunctionEnv, Option.isSome_some, if_true]
  refine wpAny_bind (wpAny_alloc ?_)
  rw [forIn_yield_id cl (fun x hx c => by
    have := List.all_eq_true.mp hc x hx
    obtain ⟨name, kind⟩ := x
    have : (kind == NameKind.cell) = false := by simpa using this
    simp only [this, Bool.false_eq_true, if_false])]
  refine wpAny_bind (wpAny_pure (wpAny_bind ?_))
  rw [List.forIn_nil]
  refine wpAny_pure (wpAny_pure (h _ _ ?_))
  have T := S.add (pushG _ { cls := .type "dict", data := .dict #[] }) (none_size _) (x := .fr "dict" fun _ => none) ⟨_, #[], 0, Heap.get?_push_size _ rfl, rfl, rfl, rfl, fun _ he => by simp at he, fun _ => rfl⟩
  exact T.perm (by rw [List.append_assoc]; exact List.perm_middle (a := (s.heap.objs.size, AObj.fr "dict" fun _ => none)) (l₁ := σ) (l₂ := τ))
theorem St.setT2 {ρ : Wd} {σ : Lc} {a b : Addr} {x y z : AObj} {s' : Shared} (S : St C ρ ((a, x) :: (b, y) :: τ) σ s) (c : Chg b s s') (t : z.At C s'.heap b) : St C ρ ((a, x) :: (b, z) :: τ) σ s' := by
  have T : St C ρ ((b, y) :: (a, x) :: τ) σ s := S.perm (List.Perm.append_left σ (.swap _ _ _))
  exact (T.setT c t).perm (List.Perm.append_left σ (.swap _ _ _))
theorem St.gone2 {ρ : Wd} {σ : Lc} {a b : Addr} {x y : AObj} {s' : Shared} (S : St C ρ ((a, x) :: (b, y) :: τ) σ s) (c : Chg b s s') : St C ρ ((a, x) :: τ) σ s' := by
  have T : St C ρ ((b, y) :: (a, x) :: τ) σ s := S.perm (List.Perm.append_left σ (.swap _ _ _))
  exact T.gone c
theorem St.goneL {ρ : Wd} {σ : Lc} {a : Addr} {x : AObj} {s' : Shared} (S : St C ρ τ ((a, x) :: σ) s) (c : Chg a s s') : St C ρ τ σ s' := by
  have T : St C ρ ((a, x) :: τ) σ s := S.perm (List.perm_middle (a := (a, x)) (l₁ := σ) (l₂ := τ)).symm
  exact T.gone c
noncomputable def iterB (M : Model) (A : Around) (E : Value → Shared → Prop) (Qi : Value → Shared → Prop) (xv : Value) (s₁ : Shared) : Prop := wpAny M A (pyIter xv) Qi E s₁
inductive LcDone {α : Type} (C : Cx) (ρ : α → Wd) (σ : α → Lc) (P : Nat → α → List Value → Prop) (τ : Lc) (I : Addr) (itn : AObj) (L : Addr) (m : Mp) (D : Addr) (i : Nat) (ys : List Value) (r : Value) (s : Shared) : Prop
  | mk (y : α) (p : P i y (ys ++ [r])) (S : St C (ρ y) ((D, .list ys) :: (I, itn) :: τ) ((L, .fr "dict" m) :: σ y) s) : LcDone C ρ σ P τ I itn L m D i ys r s
inductive LcSkip {α : Type} (C : Cx) (ρ : α → Wd) (σ : α → Lc) (P : Nat → α → List Value → Prop) (τ : Lc) (I : Addr) (itn : AObj) (L : Addr) (m : Mp) (D : Addr) (i : Nat) (ys : List Value) (s : Shared) : Prop
  | mk (y : α) (p : P i y ys) (S : St C (ρ y) ((D, .list ys) :: (I, itn) :: τ) ((L, .fr "dict" m) :: σ y) s) : LcSkip C ρ σ P τ I itn L m D i ys s
inductive LcAt {α : Type} (C : Cx) (A : Around) (env : Env) (elt : Expr) (ifs : List Expr) (scope : Scope) (cl : List (Str × Addr)) (ρ : α → Wd) (σ : α → Lc) (P : Nat → α → List Value → Prop) (τ : Lc) (x : Str) (Q : Value → Shared → Prop) (E' : Addr → Value → Shared → Prop) (itv : Value) (s₂ : Shared) : Prop
  | mk (I : Addr) (it : Nat → AObj) (vs : List Value) (dep : Heap → Prop) (x0 : α) (e : itv = .ref I) (W : Wk C A I it vs dep) (hz : vs.length ≤ Big) (S : St C (ρ x0) ((I, it 0) :: τ) (σ x0) s₂) (h0 : P 0 x0 [])
      (hdep : ∀ i x ys τ' σ' s, P i x ys → St C (ρ x) τ' (σ' ++ σ x) s → dep s.heap)
      (turn : ∀ i y v ys L D m s, vs[i]? = some v → P i y ys → m x = some v → St C (ρ y) ((D, .list ys) :: (I, it (i + 1)) :: τ) ((L, .fr "dict" m) :: σ y) s →
        wpAny C.M A (tests ifs (compEnvC scope cl L env)) (fun ok s₃ => if ok = true then wpAny C.M A (eval elt (compEnvC scope cl L env)) (LcDone C ρ σ P τ I (it (i + 1)) L m D (i + 1) ys) (E' L) s₃ else LcSkip C ρ σ P τ I (it (i + 1)) L m D (i + 1) ys s₃) (E' L) s)
      (fin : ∀ y ys D s, P vs.length y ys → St C (ρ y) τ (σ y ++ [(D, .list ys)]) s → Q (.ref D) s) : LcAt C A env elt ifs scope cl ρ σ P τ x Q E' itv s₂
inductive LpAt {α : Type} (C : Cx) (A : Around) (env : Env) (elt : Expr) (ifs : List Expr) (scope : Scope) (cl : List (Str × Addr)) (ρ : α → Wd) (σ : α → Lc) (P : Nat → α → List Value → Prop) (τ : Lc) (x : Str) (Q : Value → Shared → Prop) (E' : Addr → Value → Shared → Prop) (itv : Value) (s₂ : Shared) : Prop
  | mk (I : Addr) (it : Nat → AObj) (n : Nat) (F : Nat → Value → Prop) (dep : Heap → Prop) (x0 : α) (e : itv = .ref I) (W : Wp C A I it n F dep) (hz : n ≤ Big) (S : St C (ρ x0) ((I, it 0) :: τ) (σ x0) s₂) (h0 : P 0 x0 [])
      (hdep : ∀ i x ys τ' σ' s, P i x ys → St C (ρ x) τ' (σ' ++ σ x) s → dep s.heap)
      (turn : ∀ i y v ys L D m s, i < n → F i v → P i y ys → m x = some v → St C (ρ y) ((D, .list ys) :: (I, it (i + 1)) :: τ) ((L, .fr "dict" m) :: σ y) s →
        wpAny C.M A (tests ifs (compEnvC scope cl L env)) (fun ok s₃ => if ok = true then wpAny C.M A (eval elt (compEnvC scope cl L env)) (LcDone C ρ σ P τ I (it (i + 1)) L m D (i + 1) ys) (E' L) s₃ else LcSkip C ρ σ P τ I (it (i + 1)) L m D (i + 1) ys s₃) (E' L) s)
      (fin : ∀ y ys D s, P n y ys → St C (ρ y) τ (σ y ++ [(D, .list ys)]) s → Q (.ref D) s) : LpAt C A env elt ifs scope cl ρ σ P τ x Q E' itv s₂
theorem LcAt.lp {α : Type} {A : Around} {elt : Expr} {ifs : List Expr} {scope : Scope} {cl : List (Str × Addr)} {ρ : α → Wd} {σ : α → Lc} {P : Nat → α → List Value → Prop} {x : Str} {E' : Addr → Value → Shared → Prop} {itv : Value} {s₂ : Shared} (h : LcAt C A env elt ifs scope cl ρ σ P τ x Q E' itv s₂) :
    LpAt C A env elt ifs scope cl ρ σ P τ x Q E' itv s₂ := by
  obtain ⟨I, it, vs, dep, x0, e, W, hz, S, h0, hdep, turn, fin⟩ := h
  exact ⟨I, it, vs.length, fun i v => vs[i]? = some v, dep, x0, e, W.wp, hz, S, h0, hdep, fun i y v ys L D m s _ hv => turn i y v ys L D m s hv, fin⟩
section
variable {C : Cx} {τ : Lc} {s : Shared} {A : Around} {E : Value → Shared → Prop} {E' : Addr → Value → Shared → Prop} {env : Env} {Q : Value → Shared → Prop}
theorem comp_stE {α : Type} {elt iter : Expr} {x : Str} {px : Pos} {ifs : List Expr} {scope : Scope} {pos : Pos} {cl : List (Str × Addr)} (ρ : α → Wd) (σ : α → Lc) (P : Nat → α → List Value → Prop)
    (hclos : closureFor scope env = pure cl)
    (hnames : (scope.names.all fun y => (y.2 != .local || scope.names.lookup y.1 == some .local) && y.2 != .cell) = true) (hx : scope.names.lookup x = some .local)
    (hE : ∀ L e s', E' L e s' → notedBy C.M A (compEnvC scope cl L env) (fun e s' => compPost C.M A E none Q (.ref 0) L (.error e) s') e s')
    (h : wpAny C.M A (eval iter env) (iterB C.M A E (LpAt C A env elt ifs scope cl ρ σ P τ x Q E')) E s)
    (hk : scope.kind = .function := by rfl)
    (hs : ∀ x, foldedSetIterable iter env x = pure x := by intro _; rfl) :
    wpAny C.M A (eval (.ListComp elt [⟨.Name x px, iter, ifs, 0⟩] scope pos) env) Q E s := by
  have hc : (scope.names.all fun x => x.2 != .cell) = true := by
    rw [List.all_eq_true] at hnames ⊢
    intro y hy
    have := hnames y hy
    rw [Bool.and_eq_true] at this
    exact this.2
  have hn : ∀ y ∈ scope.names, y.2 = .local → scope.names.lookup y.1 = some .local := fun y hy e => by
    have := List.all_eq_true.mp hnames y hy
    rw [Bool.and_eq_true, Bool.or_eq_true] at this
    rcases this.1 with h | h
    · rw [e] at h; exact absurd h (by decide)
    · exact beq_iff_eq.mp h
  rw [eval_ListComp]
  refine wpAny_comprehension_free (use := none) rfl hs hclos hk hn (wpAny_mono h (fun xv s₁ h₁ => wpAny_mono h₁ (fun itv s₂ h₂ => ?_) fun _ _ e => e) fun _ _ e => e)
  obtain ⟨I, it, nn, F, dep, x0, rfl, W, hz, S, hP, hdep, hturn, hfin⟩ := h₂
  refine wpAny_newList ?_
  have S1 := S.addT (pushG s₂ { cls := .type "list", data := .seq (([] : List Value).toArray) }) (none_size _) (x := .list []) ⟨_, Heap.get?_push_size _ rfl⟩
  generalize hD : s₂.heap.objs.size = D at S1
  refine compEnv_St S1 hc fun L s' S => ?_
  have loop : ∀ s', St C (ρ x0) ((D, .list []) :: (I, it 0) :: τ) ((L, .fr "dict" fun _ => none) :: σ x0) s' →
      codeAny C.M A (.compLoop (.ListComp elt [⟨.Name x px, iter, ifs, 0⟩] scope pos) 0 (.ref I) (.ref D) (compEnvC scope cl L env)) (compPost C.M A E none Q (.ref D) L) s' := by
    intro s' S
    have hxl : (compEnvC scope cl L env).kindOf x = some .local := lookup_relabel_local hx
    have hE' : ∀ e s', E' L e s' → notedBy C.M A (compEnvC scope cl L env) (fun e s' => compPost C.M A E none Q (.ref D) L (.error e) s') e s' := hE L
    refine codeAny_compLoop_tests (fun n s => ∃ i y ys m, n = nn + 1 - i ∧ i ≤ nn ∧ ys.length ≤ i ∧ P i y ys ∧ St C (ρ y) ((D, .list ys) :: (I, it i) :: τ) ((L, .fr "dict" m) :: σ y) s) ?_ (nn + 1 - 0)
      ⟨0, x0, [], _, rfl, Nat.zero_le _, Nat.le_refl _, hP, S⟩
    rintro n s ⟨i, y, ys, m, rfl, hi, hy, hP, S⟩
    rcases Nat.lt_or_eq_of_le hi with hlt | heq
    · refine W.item i s _ _ hlt (S.ta 1 rfl) (hdep i y ys _ [(L, .fr "dict" m)] s hP S) fun v s' hv c t => ?_
      have S2 := S.setT2 c t
      refine wpAny_assign_Name (storeLocal_c hxl (S2.at 0 rfl) (fun h' n hs => ?_) (by show (scope.kind == .class || (scope.kind == .module && _)) = false; rw [hk]; rfl))
      have S3 := S2.setL (y := .fr "dict" fun y => if y = x then some v else m y) 0 rfl (.of (n := s'.toks + 1) hs) n
      refine wpAny_mono (hturn i y v ys L D _ _ hlt hv hP (if_pos rfl) S3) (fun ok s₃ h₃ => ?_) hE'
      cases ok with
      | false =>
        rw [if_neg Bool.false_ne_true] at h₃ ⊢
        obtain ⟨y', p, S4⟩ := h₃
        exact ⟨nn + 1 - (i + 1), by (with_reducible exact oz7 ‹_›), i + 1, y', ys, _, rfl, by (with_reducible exact Nat.succ_le_of_lt ‹_›), by (with_reducible exact Nat.le_succ_of_le ‹_›), p, S4⟩
      | true =>
        rw [if_pos rfl] at h₃ ⊢
        refine wpAny_mono h₃ (fun r s₄ h₄ => ?_) hE'
        obtain ⟨y', p, S4⟩ := h₄
        refine wpAny_list_append_plain (S4.ta 0 rfl) (fun h' hl hs => ?_) (sz_toArray (n := Big) (by omega))
        have S5 := S4.setT (b := .list (ys ++ [r])) (.of (n := s₄.toks) hs) (by show h'.PlainList D (ys ++ [r]).toArray; rw [← List.push_toArray]; exact hl)
        exact ⟨nn + 1 - (i + 1), by (with_reducible exact oz7 ‹_›), i + 1, y', ys ++ [r], _, rfl, by (with_reducible exact Nat.succ_le_of_lt ‹_›), by rw [List.length_append, List.length_singleton]; (with_reducible exact Nat.succ_le_succ ‹_›), p, S5⟩
    · subst heq
      refine W.done s _ _ (S.ta 1 rfl) (hdep _ y ys _ [(L, .fr "dict" m)] s hP S) fun s' c => ?_
      have S2 := S.gone2 c
      refine ⟨m, NsC.ns (S2.at 0 rfl), fun h' hs => ?_⟩
      have S3 := S2.goneL (.of (n := s'.toks) hs)
      exact hfin y ys D _ hP (S3.perm (by rw [List.append_assoc]; exact .refl _))
  exact codeAny_compStart_list (loop s' S) (W.self 0 s' _ _ (S.ta 1 rfl) (loop s' S))
end
theorem listComp_st {α : Type} {elt iter : Expr} {x : Str} {px : Pos} {ifs : List Expr} {scope : Scope} {pos : Pos} {cl : List (Str × Addr)} (ρ : α → Wd) (σ : α → Lc) (P : Nat → α → List Value → Prop)
    (hclos : closureFor scope env = pure cl)
    (hnames : (scope.names.all fun y => (y.2 != .local || scope.names.lookup y.1 == some .local) && y.2 != .cell) = true) (hx : scope.names.lookup x = some .local)
    (hE : ∀ L e s', E' e s' → notedBy C.M A (compEnvC scope cl L env) (fun e s' => compPost C.M A E none Q (.ref 0) L (.error e) s') e s')
    (h : wpAny C.M A (eval iter env) (iterB C.M A E (LcAt C A env elt ifs scope cl ρ σ P τ x Q fun _ => E')) E s)
    (hk : scope.kind = .function := by rfl)
    (hs : ∀ x, foldedSetIterable iter env x = pure x := by intro _; rfl) :
    wpAny C.M A (eval (.ListComp elt [⟨.Name x px, iter, ifs, 0⟩] scope pos) env) Q E s :=
  comp_stE ρ σ P hclos hnames hx (E' := fun _ => E') hE (wpAny_mono h (fun _ _ h₁ => wpAny_mono h₁ (fun _ _ h₂ => h₂.lp) fun _ _ e => e) fun _ _ e => e) hk hs
end
end Mine
end
section
open PySem PySem.W PyProof.Rows PySem.Calls
set_option Elab.async false
set_option maxRecDepth 100000
set_option linter.unusedVariables false
set_option linter.unusedSimpArgs false
namespace Mine
open PySem (Sem Str Value Heap Obj Shared)
theorem fl_mro : mroOf (.type "filter") = pure [.type "filter", .type "object"] := by rw [mroOf_type]; kernel_rfl
theorem fl_new : typeLookup (.type "filter") "__new__" = pure (some (.builtin "filter.__new__")) := by rw [typeLookup_type, builtinLookup_eq_fast]; kernel_rfl
theorem fl_slot_init : Slot "filter" "__init__" "object.__init__" :=
  .of (owner := "object") (n := "__init__") (by rw [typeLookup_type, builtinLookup_eq_fast]; kernel_rfl) (by decide +kernel) (by decide +kernel) (by decide +kernel)
    (by first | exact .inl (by decide +kernel) | exact .inr (by decide +kernel)) (by rw [isSubtype_type]; kernel_rfl)
theorem fl_slot_next : Slot "filter" "__next__" "filter.__next__" :=
  .of (owner := "filter") (n := "__next__") (by rw [typeLookup_type, builtinLookup_eq_fast]; kernel_rfl) (by decide +kernel) (by decide +kernel) (by decide +kernel)
    (by first | exact .inl (by decide +kernel) | exact .inr (by decide +kernel)) (by rw [isSubtype_type]; kernel_rfl)
theorem fl_slot_iter : Slot "filter" "__iter__" "filter.__iter__" :=
  .of (owner := "filter") (n := "__iter__") (by rw [typeLookup_type, builtinLookup_eq_fast]; kernel_rfl) (by decide +kernel) (by decide +kernel) (by decide +kernel)
    (by first | exact .inl (by decide +kernel) | exact .inr (by decide +kernel)) (by rw [isSubtype_type]; kernel_rfl)
theorem fl_called : TypeCalled "filter" "filter.__new__" "object.__init__" :=
  ⟨by decide +kernel, by decide +kernel, ⟨_, _, fl_mro⟩, madeBy_type fl_mro fl_new (by decide +kernel), by decide +kernel, by rw [isSubtype_type]; kernel_rfl, fl_slot_init⟩
theorem fl_typeCall (a b : Value) : checkTypeCall "filter" ⟨[a, b], []⟩ = pure () := by kernel_rfl
theorem fl_newCall (a b : Value) : checkBuiltinCall "filter.__new__" ⟨[.type "filter", a, b], []⟩ = pure () := by kernel_rfl
theorem fl_entry_new : entryFor table "filter.__new__" = some Builtin.«filter.__new__» := entryFor_of_tree (by kernel_rfl)
theorem fl_entry_next : entryFor table "filter.__next__" = some Builtin.«filter.__next__» := entryFor_of_tree (by kernel_rfl)
theorem fl_entry_iter : entryFor table "filter.__iter__" = some Builtin.«dict_keyiterator.__iter__» :=
  entryFor_alias (id' := "dict_keyiterator.__iter__") (by kernel_rfl) (by first | rfl | decide +kernel | (unfold String.splitOn; simp +decide [String.splitOnAux])) (by decide +kernel) (by kernel_rfl)
theorem fl_owner : Manifest.owners.lookup (String.ofList ['f', 'i', 'l', 't', 'e', 'r']) = some Manifest.sig_filter := by kernel_rfl
theorem fl_args_next (a : Value) : argsOk "filter.__next__" ⟨[a], []⟩ := by
  unfold argsOk; rw [signature?_of (id := "filter.__next__") (n := ['_', '_', 't', 'x', 'e', 'n', '_', '_']) (o := ['r', 'e', 't', 'l', 'i', 'f']) (by kernel_rfl) fl_owner]; kernel_rfl
theorem fl_args_iter (a : Value) : argsOk "filter.__iter__" ⟨[a], []⟩ := by
  unfold argsOk; rw [signature?_of (id := "filter.__iter__") (n := ['_', '_', 'r', 'e', 't', 'i', '_', '_']) (o := ['r', 'e', 't', 'l', 'i', 'f']) (by kernel_rfl) fl_owner]; kernel_rfl
theorem fl_plain_next : plainId "filter.__next__" = true := by decide +kernel
theorem fl_sub : isSubtype (.type "filter") (.type "filter") = pure true := by rw [isSubtype_type]; kernel_rfl
theorem fl_no_len : typeLookup (.type "filter") "__len__" = pure none := by rw [typeLookup_type, builtinLookup_eq_fast]; kernel_rfl
theorem fl_no_hint : typeLookup (.type "filter") "__length_hint__" = pure none := by rw [typeLookup_type, builtinLookup_eq_fast]; kernel_rfl
theorem fl_newClass (a b : Value) : Builtin.SmallTypes.newClass "filter" ⟨[.type "filter", a, b], []⟩ = pure (.type "filter", [a, b]) := by
  unfold Builtin.SmallTypes.newClass
  simp only [isType, fl_sub, pure_bind, Bool.not_true, Bool.false_eq_true, if_false]
noncomputable abbrev flObj (I : Addr) : Obj := { cls := .type "filter", data := .fields #[.none, .ref I] }
noncomputable abbrev liObj (l : Addr) : Obj := { cls := .type "list_iterator", data := .fields #[.ref l, .int 0 0] }
theorem fl_meets_new {prog : Program} {w : World} (l : Addr) (items : Array Value) :
    MeetsIn prog w (Builtin.«filter.__new__» ⟨[.type "filter", .none, .ref l], []⟩) (fun _ R s => s.heap.IsList l items ∧
      R (.ok (.ret (.ref (s.heap.objs.size + 1)))) { s with heap := (s.heap.push (liObj l)).push (flObj s.heap.objs.size) }) :=
  .of_wp fun A R s ⟨hl, h⟩ => by
    unfold Builtin.«filter.__new__»
    refine wpAny_bind (wpAny_of_eq (fl_newClass _ _) ?_)
    try dsimp only
    refine wpAny_bind (wpAny_of_eq (a := ()) (by first | rfl | kernel_rfl) ?_)
    refine wpAny_bind (wpAny_of_eq (a := ()) (by first | rfl | kernel_rfl) ?_)
    try dsimp only
    refine wpAny_bind (wpAny_pyIter_list hl ?_)
    show wpAny _ _ (Builtin.SmallTypes.newRecord (.type "filter") [.none, .ref s.heap.objs.size] >>= fun v => ret v) _ _ _
    unfold Builtin.SmallTypes.newRecord
    refine wpAny_bind (wpAny_newObj_type (wpAny_pure ⟨_, rfl, ?_⟩))
    have e : (s.heap.push (liObj l)).objs.size = s.heap.objs.size + 1 := Heap.size_push ..
    rw [← e] at h
    exact h
section
variable {prog : Program} {w : World} {A : Around} {E : Value → Shared → Prop} {s : Shared}
theorem call_filter {l : Addr} {items : Array Value} {Q : Value → Shared → Prop} (hl : s.heap.IsList l items)
    (h : Q (.ref (s.heap.objs.size + 1)) { s with heap := (s.heap.push (liObj l)).push (flObj s.heap.objs.size) }) : wpAny (model prog w) A (call (.type "filter") [.none, .ref l]) Q E s := by
  have e : (s.heap.push (liObj l)).objs.size = s.heap.objs.size + 1 := Heap.size_push ..
  refine callType_newIn fl_called (by decide) (fl_typeCall _ _) (fl_newCall _ _) (fun obj => F.args_object_init_3 obj _ _) fl_entry_new (fl_meets_new l items) ⟨hl, ?_, h⟩
  refine ⟨flObj s.heap.objs.size, ?_, rfl⟩
  rw [← e]; exact Heap.get?_push_size _ rfl
theorem li_item {it l : Addr} {i : Nat} {items} {x : Value} {Q : Option Value → Shared → Prop} (hit : s.heap.IsListIter it l i)
    (hl : s.heap.IsList l items) (hx : items[i]? = some x)
    (hQ : ∀ h', h'.IsListIter it l (i + 1) → Heap.SameBut it s.heap h' → Q (some x) { s with heap := h' }) :
    wpAny (model prog w) A (callSpecial? (.ref it) "__next__") Q E s := by
  obtain ⟨o, ho, hc, hd⟩ := id hit
  obtain ⟨ol, hol, _, nl, hdl⟩ := hl
  refine wpAny_callSpecial?_slot (name := Str.ofString "__next__") hit.typeIs slot_listiter_next
    (wpAny_call_entry slot_listiter_next hit.typeIs entry_listiter_next ?_ (args_listiter_next _))
  show wpAny _ _ (field (.ref it) 0 >>= _) _ _ s
  refine wpAny_bind (wpAny_field ho hd (x := .ref l) rfl ?_)
  show wpAny _ _ (if (Value.ref l == Value.none) = true then _ else _) _ _ s
  rw [if_neg (show ¬ ((Value.ref l == Value.none) = true) from Bool.false_ne_true)]
  show wpAny _ _ (field (.ref it) 1 >>= _) _ _ s
  refine wpAny_bind (wpAny_field ho hd (x := .int i 0) rfl ?_)
  show wpAny _ _ (seqItems? (.ref l) >>= _) _ _ s
  refine wpAny_bind (wpAny_seqItems hol hdl ?_)
  simp only [Int.toNat_natCast, hx]
  refine wpAny_bind (wpAny_setField ho hd (by simp) (wpAny_pure ⟨x, rfl, hQ _ ?_ (Heap.SameBut.update ..)⟩))
  exact ⟨_, Heap.get?_update_self _ ho (Obj.isFreed_of_fields (Obj.data_mapFields hd _)), (Obj.cls_mapFields ..).trans hc, by
    rw [Obj.data_mapFields hd]; simp [rawInt]⟩
theorem li_end {it l : Addr} {i : Nat} {items} {Q : Option Value → Shared → Prop} (hh : A.handled = none)
    (hit : s.heap.IsListIter it l i) (hl : s.heap.IsList l items) (hx : items[i]? = none)
    (hQ : ∀ h' e, Heap.ExtBut it s.heap h' → (∃ o, h'.get? e = some o ∧ o.cls = .type "StopIteration") → E (.ref e) { s with heap := h' }) : wpAny (model prog w) A (callSpecial? (.ref it) "__next__") Q E s := by
  obtain ⟨o, ho, hc, hd⟩ := id hit
  obtain ⟨ol, hol, _, nl, hdl⟩ := hl
  refine wpAny_callSpecial?_slot (name := Str.ofString "__next__") hit.typeIs slot_listiter_next
    (wpAny_call_entry slot_listiter_next hit.typeIs entry_listiter_next ?_ (args_listiter_next _))
  show wpAny _ _ (field (.ref it) 0 >>= _) _ _ s
  refine wpAny_bind (wpAny_field ho hd (x := .ref l) rfl ?_)
  show wpAny _ _ (if (Value.ref l == Value.none) = true then _ else _) _ _ s
  rw [if_neg (show ¬ ((Value.ref l == Value.none) = true) from Bool.false_ne_true)]
  show wpAny _ _ (field (.ref it) 1 >>= _) _ _ s
  refine wpAny_bind (wpAny_field ho hd (x := .int i 0) rfl ?_)
  show wpAny _ _ (seqItems? (.ref l) >>= _) _ _ s
  refine wpAny_bind (wpAny_seqItems hol hdl ?_)
  simp only [Int.toNat_natCast, hx]
  refine wpAny_bind (wpAny_rule (wpAny_bind (wpAny_setField ho hd (by simp) ?_)))
  show wpAny _ _ (newExc (.type "StopIteration") [] >>= _) _ _ _
  refine wpAny_bind ?_
  simp only [newExc, newTuple]
  refine wpAny_bind (wpAny_newObj_type ?_ (by size_fits))
  refine wpAny_bind (m := firstArgMember _ _) (wpAny_of_eq (a := Value.none) (by first | rfl | (simp only [firstArgMember]; rfl)) ?_)
  refine wpAny_newObj_type ?_ (by size_fits)
  simp only [raiseNew]
  refine wpAny_bind (wpAny_handled ?_)
  rw [show A.in1.handled = none from hh]
  exact wpAny_bind (wpAny_pure (wpAny_throw (hQ _ _ (((Heap.SameBut.update ..).extBut.push _).push _) ⟨_, Heap.get?_push_size _ rfl, rfl⟩)))
end
theorem Chg.trans {a : Addr} {s s' s'' : Shared} (x : Chg a s s') (y : Chg a s' s'') : Chg a s s'' := ⟨fun b o n e => y.ext b o n (x.ext b o n e), y.os.trans x.os, fun g => y.gens (x.gens g)⟩
noncomputable abbrev FlIts := List (Addr × List Value)
structure FlDep (h : Heap) (L : Addr) (its : FlIts) : Prop where
  l : h.PlainList L (its.map fun p => Value.ref p.1).toArray
  r : ∀ p, p ∈ its → h.PlainList p.1 p.2.toArray ∧ p.2.length ≤ Big
theorem FlDep.ext {h h' : Heap} {L I l : Addr} {i : Nat} {its : FlIts} (d : FlDep h L its) (hi : h.IsListIter I l i) (k : Heap.ExtBut I h h') : FlDep h' L its := by
  have ne : ∀ {a xs}, h.PlainList a xs → a ≠ I := fun x q => by
    subst q
    obtain ⟨_, e⟩ := x
    obtain ⟨_, e', c, _⟩ := hi
    rw [e] at e'; cases e'
    exact absurd c (show Value.type "list" ≠ _ by decide)
  exact ⟨d.l.extBut k (ne d.l), fun p hp => ⟨(d.r p hp).1.extBut k (ne (d.r p hp).1), (d.r p hp).2⟩⟩
section
variable {prog : Program} {w : World} {A : Around}
noncomputable def FlNextP (prog : Program) (w : World) (A : Around) (R : Result → Shared → Prop) (f I L : Addr) (its rest : FlIts) : Prop := ∀ (pre : FlIts) (s : Shared), its = pre ++ rest → s.heap.IsListIter I L pre.length → s.heap.get? f = some (flObj I) → FlDep s.heap L its →
    (∀ p rest' s', rest.dropWhile (fun q => q.2.isEmpty) = p :: rest' → s'.heap.IsListIter I L (its.length - rest'.length) → Chg I s s' → R (.ok (.ret (.ref p.1))) s') →
    (∀ e s', rest.dropWhile (fun q => q.2.isEmpty) = [] → Chg I s s' → (∃ o, s'.heap.get? e = some o ∧ o.cls = .type "StopIteration") → R (.error (.ref e)) s') →
    codeAny (model prog w) A (.builtin "filter.__next__" ⟨[.ref f], []⟩) R s
theorem fl_step {R : Result → Shared → Prop} {f I L : Addr} {its rest : FlIts} (hh : A.handled = none) (hfI : f ≠ I) (ih : ∀ p r, rest = p :: r → FlNextP prog w A R f I L its r) : FlNextP prog w A R f I L its rest := by
  intro pre s he hi hf hd h1 h2
  refine codeAny_builtin fl_entry_next ?_
  rw [Around.under_plainId fl_plain_next _]
  unfold Builtin.«filter.__next__»
  refine wpAny_bind (wpAny_of_eq (a := (Value.ref f, [])) rfl ?_)
  try dsimp only
  refine wpAny_bind (wpAny_field hf rfl (x := .none) rfl ?_)
  refine wpAny_bind (wpAny_field hf rfl (x := .ref I) rfl ?_)
  cases rest with
  | nil =>
    refine wpAny_bind (li_end (A := A.in1) hh hi hd.l.isList ?_ fun h' e hs ho => ?_)
    · rw [he]; simp
    · exact h2 e _ rfl ⟨hs, rfl, fun x => x⟩ ho
  | cons p rest =>
    have hx : (its.map fun p => Value.ref p.1).toArray[pre.length]? = some (.ref p.1) := by rw [he]; simp
    refine wpAny_bind (li_item hi hd.l.isList hx fun h' hi' hs => ?_)
    try dsimp only
    have hd' := hd.ext hi hs.extBut
    have hf' : h'.get? f = some (flObj I) := (hs.2 f hfI).trans hf
    have hp := hd'.r p (by rw [he]; simp)
    refine wpAny_bind (wpAny_holding ?_)
    rw [if_pos (by rfl)]
    refine wpAny_bind (wpAny_rule (wpAny_truthy_list (s := { s with heap := h' }) hp.1.isList (by rw [List.size_toArray]; have : p.2.length ≤ 100000 := hp.2; ((with_reducible refine oz5 ‹_› ?_); exact rfl)) ?_))
    have c1 : Chg I s { s with heap := h', toks := s.toks + 1 + 1 } := ⟨hs.extBut, rfl, fun x => x⟩
    have e0 : p.2.toArray.isEmpty = p.2.isEmpty := by cases p.2 <;> rfl
    rw [e0]
    cases q : p.2.isEmpty with
    | false =>
      rw [if_pos (by rfl)]
      refine wpAny_pure (h1 p rest _ (by rw [List.dropWhile_cons, q]; rfl) ?_ c1)
      have : its.length - rest.length = pre.length + 1 := by rw [he]; simp; omega
      rw [this]; exact hi'
    | true =>
      rw [if_neg (by exact Bool.false_ne_true)]
      refine wpAny_pure ⟨plainId_quiet fl_plain_next _, ih p rest rfl (pre ++ [p]) _ (by rw [he]; simp) ?_ hf' hd' (fun p' rest' s' e1 e2 e3 => h1 p' rest' s' (by rw [List.dropWhile_cons, q]; exact e1) e2 (c1.trans e3))
        fun e s' e1 e2 e3 => h2 e s' (by rw [List.dropWhile_cons, q]; exact e1) (c1.trans e2) e3⟩
      rw [List.length_append]; exact hi'
theorem fl_next {R : Result → Shared → Prop} {f I L : Addr} {its : FlIts} (hh : A.handled = none) (hfI : f ≠ I) : ∀ (rest : FlIts), FlNextP prog w A R f I L its rest
  | [] => fl_step hh hfI fun _ _ e => nomatch e
  | _ :: r => fl_step hh hfI fun _ _ e => by cases e; exact fl_next hh hfI r
theorem fl_pyNext {E : Value → Shared → Prop} {Q : Option Value → Shared → Prop} {f I L : Addr} {its : FlIts} (hh : A.handled = none) (hfI : f ≠ I) (rest pre : FlIts) (s : Shared) (he : its = pre ++ rest) (hi : s.heap.IsListIter I L pre.length) (hf : s.heap.get? f = some (flObj I)) (hd : FlDep s.heap L its)
    (h1 : ∀ p rest' s', rest.dropWhile (fun q => q.2.isEmpty) = p :: rest' → s'.heap.IsListIter I L (its.length - rest'.length) → Chg I s s' → Q (some (.ref p.1)) s')
    (h2 : ∀ s', rest.dropWhile (fun q => q.2.isEmpty) = [] → Chg I s s' → Q none s') : wpAny (model prog w) A (pyNext (.ref f)) Q E s := by
  have hT : s.TypeIs (.ref f) "filter" := ⟨_, hf, rfl⟩
  unfold pyNext
  refine wpAny_bind (wpAny_attempt (wpAny_callSpecial?_slot (name := Str.ofString "__next__") hT fl_slot_next (wpAny_call (codeAny_call_builtin_code (plainId_quiet fl_plain_next _) (fl_slot_next.check _ _ _ _ _ _ _ _ hT (fl_args_next _) ?_)))))
  refine fl_next (its := its) hh hfI rest pre s he hi hf hd (fun p rest' s' e1 e2 e3 => ?_) fun e s' e1 e2 e3 => ?_
  · exact wpAny_pure (h1 p rest' s' e1 e2 e3)
  · obtain ⟨o, ho, hc⟩ := e3
    exact wpAny_bind (wpAny_isInstance (T := "StopIteration") (b := true) ⟨_, ho, hc⟩ isSubtype_stop (wpAny_pure (h2 s' e1 e2)))
end
structure Chg2 (I S : Addr) (s s' : Shared) : Prop where
  ext : ∀ b o, b ≠ I → b ≠ S → s.heap.get? b = some o → s'.heap.get? b = some o
  os : s'.os = s.os
  gens : AllBare s.gens → AllBare s'.gens
theorem Chg2.trans {I S : Addr} {s s' s'' : Shared} (x : Chg2 I S s s') (y : Chg2 I S s' s'') : Chg2 I S s s'' := ⟨fun b o n m e => y.ext b o n m (x.ext b o n m e), y.os.trans x.os, fun g => y.gens (x.gens g)⟩
theorem Chg.two {I S : Addr} {s s' : Shared} (x : Chg I s s') : Chg2 I S s s' := ⟨fun b o n _ e => x.ext b o n e, x.os, x.gens⟩
noncomputable def flKept (rest : FlIts) : List Value := (rest.filter fun q => !q.2.isEmpty).map fun q => .ref q.1
theorem flKept_some : ∀ {rest : FlIts} {p rest'}, rest.dropWhile (fun q => q.2.isEmpty) = p :: rest' → flKept rest = .ref p.1 :: flKept rest'
  | q :: rest, p, rest', h => by
    rw [List.dropWhile_cons] at h
    cases e : q.2.isEmpty with
    | true => rw [e] at h; have := flKept_some (rest := rest) h; simpa [flKept, e] using this
    | false => rw [e] at h; cases h; simp [flKept, e]
theorem flKept_none : ∀ {rest : FlIts}, rest.dropWhile (fun q => q.2.isEmpty) = [] → flKept rest = []
  | [], _ => rfl
  | q :: rest, h => by
    rw [List.dropWhile_cons] at h
    cases e : q.2.isEmpty with
    | true => rw [e] at h; have := flKept_none (rest := rest) h; simpa [flKept, e] using this
    | false => rw [e] at h; cases h
section
variable {prog : Program} {w : World} {A : Around}
noncomputable def FlLoopP (prog : Program) (w : World) (A : Around) (R : Result → Shared → Prop) (f I L S : Addr) (its : FlIts) (res : Value) (n : Nat) : Prop :=
    ∀ (rest pre : FlIts) (acc : List Value) (s : Shared), rest.length ≤ n → its = pre ++ rest → acc.length ≤ pre.length → s.heap.IsListIter I L pre.length → s.heap.get? f = some (flObj I) → FlDep s.heap L its → s.heap.PlainList S acc.toArray →
    (∀ s', Chg2 I S s s' → s'.heap.PlainList S (acc ++ flKept rest).toArray → R (.ok (.ret res)) s') →
    codeAny (model prog w) A (.builtin "list.extend.loop" ⟨[.ref S, .ref f, res], []⟩) R s
theorem fl_lstep {R : Result → Shared → Prop} {f I L S : Addr} {its : FlIts} {res : Value} (hh : A.handled = none) (hfI : f ≠ I) (hSf : S ≠ f) (hSI : S ≠ I) (hSL : S ≠ L) (hSr : ∀ p, p ∈ its → S ≠ p.1) (hz : its.length ≤ Big) {n : Nat}
    (ih : ∀ m, n = m + 1 → FlLoopP prog w A R f I L S its res m) : FlLoopP prog w A R f I L S its res n := by
  intro rest pre acc s hn he ha hi hf hd hS h
  refine codeAny_builtin F.entry_extend_loop ?_
  rw [Around.under_plainId F.plain_extend_loop _]
  show wpAny _ A.in1 (pyNext (.ref f) >>= _) _ _ s
  refine wpAny_bind (fl_pyNext (A := A.in1) (its := its) hh hfI rest pre s he hi hf hd (fun p rest' s' e1 e2 e3 => ?_) fun s' e1 e2 => ?_)
  · have hS' : s'.heap.PlainList S acc.toArray := hS.extBut e3.ext hSI
    obtain ⟨c, hS''⟩ := hS'
    have hl : rest'.length < rest.length := by
      have := List.IsSuffix.length_le (List.dropWhile_suffix (fun q : Addr × List Value => q.2.isEmpty) (l := rest))
      rw [e1, List.length_cons] at this; (with_reducible exact Nat.lt_of_succ_le ‹_›)
    have hsp : its = (pre ++ (rest.takeWhile (fun q => q.2.isEmpty) ++ [p])) ++ rest' := by
      rw [he, List.append_assoc, List.append_assoc]
      congr 1
      rw [List.singleton_append, ← e1, List.takeWhile_append_dropWhile]
    have hlen : its.length - rest'.length = (pre ++ (rest.takeWhile (fun q => q.2.isEmpty) ++ [p])).length := by
      rw [hsp, List.length_append (bs := rest')]; omega
    have hsz : acc.length ≤ its.length := by rw [he, List.length_append]; omega
    show wpAny _ A.in1 (updateSeq S (·.push (.ref p.1)) >>= _) _ _ _
    refine wpAny_bind (wpAny_updateSeq hS'' rfl ?_ (sz_toArray (n := Big) (Nat.le_trans hsz hz)) (by
      rw [Array.size_push, List.size_toArray, sizeLine_eq]; have : its.length ≤ 100000 := hz; omega))
    cases n with
    | zero => omega
    | succ n =>
      have c2 : Chg2 I S s { s' with heap := s'.heap.update S (Obj.mapSeq (·.push (.ref p.1))) } := e3.two.trans ⟨fun b o _ m e => (Heap.get?_update_other _ _ (Ne.symm m)).trans e, rfl, fun x => x⟩
      have oth : ∀ b o, b ≠ S → s'.heap.get? b = some o → (s'.heap.update S (Obj.mapSeq (·.push (.ref p.1)))).get? b = some o := fun b o m e => (Heap.get?_update_other _ _ (Ne.symm m)).trans e
      have hd' := hd.ext hi e3.ext
      have hd2 : FlDep (s'.heap.update S (Obj.mapSeq (·.push (.ref p.1)))) L its := ⟨hd'.l.at fun o e => oth L o (Ne.symm hSL) e, fun q hq => ⟨(hd'.r q hq).1.at fun o e => oth _ o (Ne.symm (hSr q hq)) e, (hd'.r q hq).2⟩⟩
      refine wpAny_pure ⟨plainId_quiet F.plain_extend_loop _, ih n rfl rest' (pre ++ (rest.takeWhile (fun q => q.2.isEmpty) ++ [p])) (acc ++ [.ref p.1]) _ (by omega) hsp ?_ ?_ ?_ hd2 ?_ fun s'' c3 hS3 => ?_⟩
      · simp only [List.length_append, List.length_singleton]; omega
      · rw [hlen] at e2; exact e2.at fun o e => oth I o (Ne.symm hSI) e
      · exact oth f _ (Ne.symm hSf) ((e3.ext f _ hfI) hf)
      · rw [← List.push_toArray]; exact plainUpd hS'' _
      · refine h s'' (c2.trans c3) ?_
        rw [flKept_some e1]
        rw [List.append_assoc] at hS3
        exact hS3
  · refine wpAny_pure (h s' e2.two ?_)
    rw [flKept_none e1, List.append_nil]
    exact hS.extBut e2.ext hSI
theorem fl_loop {R : Result → Shared → Prop} {f I L S : Addr} {its : FlIts} {res : Value} (hh : A.handled = none) (hfI : f ≠ I) (hSf : S ≠ f) (hSI : S ≠ I) (hSL : S ≠ L) (hSr : ∀ p, p ∈ its → S ≠ p.1) (hz : its.length ≤ Big) : ∀ n, FlLoopP prog w A R f I L S its res n
  | 0 => fl_lstep hh hfI hSf hSI hSL hSr hz fun _ e => nomatch e
  | n + 1 => fl_lstep hh hfI hSf hSI hSL hSr hz fun _ e => by cases e; exact fl_loop hh hfI hSf hSI hSL hSr hz n
theorem call_list_filter {E : Value → Shared → Prop} {Q : Value → Shared → Prop} {f I L : Addr} {its : FlIts} {s : Shared} (hh : A.handled = none) (hfI : f ≠ I) (hz : its.length ≤ Big) (hi : s.heap.IsListIter I L 0) (hf : s.heap.get? f = some (flObj I)) (hd : FlDep s.heap L its)
    (h : ∀ s' D, s.heap.get? D = none → Chg2 I D s s' → s'.heap.PlainList D (flKept its).toArray → Q (.ref D) s') : wpAny (model prog w) A (call (.type "list") [.ref f]) Q E s := by
  refine callType_codes (Q₁ := fun obj s₁ => obj = .ref s.heap.objs.size ∧ s₁ = { s with heap := s.heap.push { cls := .type "list", data := .seq #[] } }) F.called_list (F.typeCall_list_1 _) F.entry_list_init
    (code_list_new _ ⟨rfl, rfl⟩) fun obj s₁ h₁ => ?_
  obtain ⟨rfl, rfl⟩ := h₁
  have hS : (s.heap.push { cls := .type "list", data := .seq #[] }).get? s.heap.objs.size = some { cls := .type "list", data := .seq #[] } := Heap.get?_push_size _ rfl
  have neq : ∀ {a o}, s.heap.get? a = some o → s.heap.objs.size ≠ a := fun e => Nat.ne_of_gt (Heap.lt_size e)
  obtain ⟨oi, ei, _⟩ := id hi
  obtain ⟨_, eL⟩ := hd.l
  have hfT : ∀ {h'}, h'.get? f = some (flObj I) → ∀ g d t os, (Shared.mk h' g d t os).TypeIs (.ref f) "filter" := fun e g d t os => ⟨_, e, rfl⟩
  refine ⟨⟨_, hS, rfl⟩, F.args_list_init_2 _ _, ?_⟩
  show wpAny _ A.in1.in1 (do let old ← Builtin.List.listItems (.ref s.heap.objs.size); Builtin.List.listUpdate (.ref s.heap.objs.size) (fun _ => #[]); letGo old.toList.reverse; Builtin.List.listExtendWith (.ref s.heap.objs.size) (.ref f) .none) _ _ _
  refine wpAny_bind ?_
  unfold Builtin.List.listItems
  refine wpAny_bind (wpAny_seqItems hS rfl (wpAny_pure ?_))
  generalize hD : s.heap.objs.size = D at *
  show wpAny _ _ (updateSeq D (fun _ => #[]) >>= fun _ => letGo (#[] : Array Value).toList.reverse >>= fun _ => Builtin.List.listExtendWith (.ref D) (.ref f) .none) _ _ _
  refine wpAny_bind (wpAny_updateSeq hS rfl ?_)
  have hS₂ := Heap.get?_update_self (Obj.mapSeq (fun _ => (#[] : Array Value))) hS rfl
  have k2 : ∀ b o, s.heap.get? b = some o → ((s.heap.push { cls := .type "list", data := .seq #[] }).update D (Obj.mapSeq (fun _ => (#[] : Array Value)))).get? b = some o :=
    fun b o e => (Heap.get?_update_other _ _ (neq e)).trans (Heap.get?_push_of_some _ e)
  refine wpAny_bind (wpAny_letGo ?_)
  unfold Builtin.List.listExtendWith
  have hf2 := k2 _ _ hf
  refine wpAny_bind (wpAny_typeOf (hfT hf2 _ _ _ _) ?_)
  have h1 : Builtin.List.listSameRef (.ref D) (.ref f) = false := by simp [Builtin.List.listSameRef, neq hf]
  have h2 : (Value.type "filter" == Value.type "list") = false := by decide
  have h3 : (Value.type "filter" == Value.type "tuple") = false := by decide
  simp only [h1, h2, h3, Bool.or_false, Bool.false_eq_true, if_false]
  refine wpAny_bind (wpAny_pyIter_slot (hfT hf2 _ _ _ _) fl_slot_iter (wpAny_call_entry fl_slot_iter (hfT hf2 _ _ _ _) fl_entry_iter ?_ (fl_args_iter _)))
  show wpAny _ _ (ret (.ref f)) _ _ _
  refine wpAny_pure ⟨_, rfl, "filter", _, hfT hf2 _ _ _ _, fl_slot_next.lookup, ?_⟩
  refine wpAny_bind (wpAny_holding ?_)
  unfold Builtin.List.listLengthHint
  refine wpAny_bind (wpAny_specialOf (hfT hf2 _ _ _ _) fl_no_len ?_)
  show wpAny _ A.in1.in1 (specialOf (Value.ref f) (Str.ofString "__length_hint__") >>= _) _ _ _
  refine wpAny_bind (wpAny_specialOf (hfT hf2 _ _ _ _) fl_no_hint ?_)
  refine wpAny_pure ?_
  show wpAny _ A.in1.in1 (rule "list.extend.makes-room" >>= fun _ => Builtin.List.listTouch (.ref D) >>= fun _ =>
    again (.builtin "list.extend.loop" ⟨[.ref D, .ref f, .none], []⟩)) _ _ _
  refine wpAny_bind (wpAny_rule ?_)
  refine wpAny_bind ?_
  show wpAny _ A.in1.in1 (updateSeq D (·.push .none) >>= fun _ => updateSeq D (·.pop)) _ _ _
  refine wpAny_bind (wpAny_updateSeq hS₂ rfl ?_)
  have hS₃ := Heap.get?_update_self (Obj.mapSeq (·.push Value.none)) hS₂ rfl
  refine wpAny_updateSeq (hz := by seq_fits) hS₃ rfl ?_
  have hS₄ := Heap.get?_update_self (Obj.mapSeq (·.pop)) hS₃ rfl
  have k4 : ∀ b o, s.heap.get? b = some o → ((((s.heap.push { cls := .type "list", data := .seq #[] }).update D (Obj.mapSeq (fun _ => (#[] : Array Value)))).update D (Obj.mapSeq (·.push Value.none))).update D (Obj.mapSeq (·.pop))).get? b = some o :=
    fun b o e => (Heap.get?_update_other _ _ (neq e)).trans ((Heap.get?_update_other _ _ (neq e)).trans (k2 b o e))
  refine wpAny_pure ⟨plainId_quiet F.plain_extend_loop _, fl_loop (A := A.in1) hh hfI (neq hf) (neq ei) (neq eL) (fun p hp => by obtain ⟨_, e⟩ := (hd.r p hp).1; exact neq e) hz its.length its [] [] _ (Nat.le_refl _) rfl (Nat.le_refl _)
    (hi.at fun o e => k4 _ o e) (k4 _ _ hf) ⟨hd.l.at fun o e => k4 _ o e, fun p hp => ⟨(hd.r p hp).1.at fun o e => k4 _ o e, (hd.r p hp).2⟩⟩ ⟨_, hS₄⟩ fun s' c hS' => ?_⟩
  refine ⟨rfl, h s' D (hD ▸ none_size _) ⟨fun b o n m e => c.ext b o n m (k4 b o e), c.os, c.gens⟩ hS'⟩
end
end Mine
end
section
open PySem PySem.W PyProof.Rows PySem.Calls
set_option Elab.async false
set_option maxRecDepth 100000
set_option linter.unusedVariables false
set_option linter.unusedSimpArgs false
namespace Mine
open PySem (Sem Str Value Heap Obj Shared)
noncomputable def ExcH (h : Heap) (e : Addr) (cls : Value) (tb : Option Value) (T : Addr) : Prop :=
  ∃ oe vs, h.get? e = some oe ∧ oe.cls = cls ∧ oe.data = .fields vs ∧ vs[2]? = some .none ∧
    match tb with
    | none => vs[1]? = some .none
    | some fl => vs[1]? = some (.ref T) ∧ T ≠ e ∧ ∃ oT ts, h.get? T = some oT ∧ oT.data = .fields ts ∧ ts[3]? = some fl
noncomputable def Ex (D S : List Addr) (h h' : Heap) : Prop := ∀ b o, b ∉ D → b ∉ S → h.get? b = some o → h'.get? b = some o
theorem Ex.trans {D S : List Addr} {h h' h'' : Heap} (x : Ex D S h h') (y : Ex D S h' h'') : Ex D S h h'' := fun b o n m e => y b o n m (x b o n m e)
theorem Ex.mono {D D' S : List Addr} {h h' : Heap} (x : Ex D S h h') (s : ∀ b, b ∈ D → b ∈ D') : Ex D' S h h' := fun b o n m e => x b o (fun q => n (s b q)) m e
theorem ex_upd {e : Addr} {D S : List Addr} {h : Heap} {f : Obj → Obj} (he : e ∈ D) : Ex D S h (h.update e f) := fun b o hb _ q => (Heap.get?_update_other _ _ (fun x : e = b => hb (x ▸ he))).trans q
theorem ex_push {D S : List Addr} (h : Heap) (o : Obj) : Ex D S h (h.push o) := fun _ _ _ _ e => Heap.get?_push_of_some o e
theorem ex_slots {D S : List Addr} {h h' : Heap} (x : Heap.SlotsOnly S h h') : Ex D S h h' := fun b o _ m q => (x.2.1 b m).trans q
theorem kp_upd {e : Addr} {D : List Addr} {h : Heap} {f : Obj → Obj} (he : e ∈ D) : Kp D h (h.update e f) := fun b o hb q =>
  ⟨o, (Heap.get?_update_other _ _ (fun x : e = b => hb (x ▸ he))).trans q, .refl o⟩
theorem kp_slots {D S : List Addr} {h h' : Heap} (x : Heap.SlotsOnly S h h') (hc : ∀ b o, b ∈ S → h.get? b = some o → o.cls = .type "frame") : Kp D h h' := fun b o _ q => by
  by_cases hb : b ∈ S
  · obtain ⟨sl, e⟩ := x.2.2 b o q
    exact ⟨_, e, rfl, rfl, rfl, fun n => absurd (hc b o hb q) n⟩
  · exact ⟨o, (x.2.1 b hb).trans q, .refl o⟩
section
variable {M : Model} {A : Around} {E : Value → Shared → Prop} {s : Shared}
theorem note_heap {env : Env} {outer : List Env} {L e T : Addr} {cls : Value} {tb : Option Value} {Q : Unit → Shared → Prop} (hfr : A.frames = some (env :: outer)) (hl : s.heap.FunFrames {} (env :: outer)) (hf : env.frame = some L)
    (hc : ∀ b o, b ∈ (env :: outer).filterMap (·.frame) → s.heap.get? b = some o → o.cls = .type "frame") (hx : ExcH s.heap e cls tb T)
    (h : ∀ h' T', ExcH h' e cls (some (rawInt L)) T' → (T' = T ∧ tb.isSome ∨ s.heap.get? T' = none) → Kp [e, if tb.isSome then T else e] s.heap h' → Ex [e, if tb.isSome then T else e] ((env :: outer).filterMap (·.frame)) s.heap h' → Q () { s with heap := h' }) : wpAny M A (noteFrame (.ref e) env) Q E s := by
  obtain ⟨oe, vs, he, hcls, hd, h2, ht⟩ := hx
  have hsz : 2 < vs.size := (Array.getElem?_eq_some_iff.mp h2).1
  have entry : ∀ (h₀ : Heap) (oe : Obj) (vs : Array Value) (head : Value) (hn : Bool), h₀.FunFrames {} (env :: outer) → (∀ b o, b ∈ (env :: outer).filterMap (·.frame) → h₀.get? b = some o → o.cls = .type "frame") → h₀.get? e = some oe → oe.cls = cls → oe.data = .fields vs → vs[2]? = some .none →
      (∀ h' T', ExcH h' e cls (some (rawInt L)) T' → h₀.get? T' = none → Kp [e] h₀ h' → Ex [e] ((env :: outer).filterMap (·.frame)) h₀ h' → Q () { s with heap := h' }) →
      wpAny M A (do let a ← frameOf env; let pl ← entryPlaceOf L hn; let b ← EntryCells.newEntry head a .none (rawInt L) .none pl; setField (.ref e) 1 b) Q E { s with heap := h₀ } := by
    intro h₀ oe vs head hn hl hc he hcls hd h2 k
    have hsz : 2 < vs.size := (Array.getElem?_eq_some_iff.mp h2).1
    have hene : e ∉ (env :: outer).filterMap (·.frame) := fun hm => by
      obtain ⟨_, o, ho, hnf⟩ := hl.mem hm
      rw [he] at ho; injection ho with ho; subst ho; exact hnf vs hd
    refine wpAny_bind (wpAny_frameOf_fun hfr hl hf fun h₁ hs₁ => ?_)
    refine wpAny_bind (wpAny_entryPlaceOf fun pl hpl => ?_)
    unfold EntryCells.newEntry newFields
    refine wpAny_bind (wpAny_newObj_type ?_ (hpl.sizeOk5 _ _ _ _ _))
    have he₁ : h₁.get? e = some oe := (hs₁.2.1 e hene).trans he
    have he₂ := Heap.get?_push_of_some (h := h₁) { cls := .type "traceback", dict := none, data := .fields ([head, .ref L, .none, rawInt L, .none] ++ (if pl.isEmpty then List.replicate 6 Value.none else pl)).toArray } he₁
    refine wpAny_setField he₂ hd (by omega) ?_
    have hTe : h₁.objs.size ≠ e := Nat.ne_of_gt (Heap.lt_size he₁)
    have hd₃ := Obj.data_mapFields hd (·.setIfInBounds 1 (Value.ref h₁.objs.size))
    have he₃ := Heap.get?_update_self (Obj.mapFields (·.setIfInBounds 1 (Value.ref h₁.objs.size))) he₂ (Obj.isFreed_of_fields hd₃)
    have hT₃ := (Heap.get?_update_other (h₁.push { cls := .type "traceback", dict := none, data := .fields ([head, .ref L, .none, rawInt L, .none] ++ (if pl.isEmpty then List.replicate 6 Value.none else pl)).toArray })
      (Obj.mapFields (·.setIfInBounds 1 (Value.ref h₁.objs.size))) (Ne.symm hTe)).trans (Heap.get?_push_size h₁ rfl)
    refine k _ h₁.objs.size ⟨_, _, he₃, (Obj.cls_mapFields _ _).trans hcls, hd₃, ?_, ?_, hTe, _, _, hT₃, rfl, ?_⟩ ?_ ?_ ?_
    · simp [h2]
    · simp [show 1 < vs.size by omega]
    · first | (simp; done) | (rcases hpl with rfl | ⟨_, _, _, _, _, _, _, rfl⟩ <;> simp)
    · rw [hs₁.1]; exact none_size _
    · exact (kp_slots hs₁ hc).trans ((Kp.push _ _).trans (kp_upd (by simp)))
    · exact (ex_slots hs₁).trans ((ex_push _ _).trans (ex_upd (by simp)))
  unfold noteFrame
  simp only [hf]
  cases tb with
  | none =>
    refine wpAny_bind (wpAny_field he hd ht ?_)
    rw [if_neg (by decide)]
    exact entry s.heap oe vs _ _ hl hc he hcls hd h2 fun h' T' a b c d => h h' T' a (.inr b) (c.mono fun x hx => by simp at hx; simp [hx]) (d.mono fun x hx => by simp at hx; simp [hx])
  | some fl =>
    obtain ⟨h1, hTe, oT, ts, hT, hdT, h3⟩ := ht
    refine wpAny_bind (wpAny_field he hd h1 ?_)
    rw [if_pos (show (Value.ref T != Value.none) = true from by simp)]
    refine wpAny_bind (wpAny_field hT hdT h3 ?_)
    by_cases q : (fl == rawInt L) = true
    · rw [if_pos q]
      have q' : fl = rawInt L := by simpa using q
      subst q'
      exact wpAny_pure (h s.heap T ⟨oe, vs, he, hcls, hd, h2, h1, hTe, oT, ts, hT, hdT, h3⟩ (.inl ⟨rfl, rfl⟩) (.refl _ _) fun _ _ _ _ e => e)
    · rw [if_neg q]
      have hs3 := (Array.getElem?_eq_some_iff.mp h3).1
      refine wpAny_bind (wpAny_setField hT hdT hs3 ?_)
      have other : ∀ b, b ≠ T → (s.heap.update T (Obj.mapFields (·.setIfInBounds 3 Value.none))).get? b = s.heap.get? b := fun b hb => Heap.get?_update_other _ _ (Ne.symm hb)
      have hTo : T ∉ (env :: outer).filterMap (·.frame) := fun hm => by
        obtain ⟨_, o, ho, hnf⟩ := hl.mem hm
        rw [hT] at ho; injection ho with ho; subst ho; exact hnf ts hdT
      refine entry _ oe vs _ _ (hl.of_keeps fun b o hb hnf => ⟨o, (other b (fun q => by rw [q, hT] at hb; injection hb with hb; subst hb; exact hnf ts hdT)).trans hb, rfl⟩)
        (fun b o hm e' => hc b o hm ((other b (fun q => hTo (q ▸ hm))).symm.trans e')) ((other e (Ne.symm hTe)).trans he) hcls hd h2 fun h' T' a b c d => h h' T' a ?_ ?_ ?_
      · right
        cases q : s.heap.get? T' with
        | none => rfl
        | some o =>
          by_cases w : T' = T
          · subst w
            rw [Heap.get?_update_self _ hT (Obj.isFreed_of_fields (Obj.data_mapFields hdT _))] at b; cases b
          · rw [other T' w, q] at b; cases b
      · have k1 : Kp [e, T] s.heap (s.heap.update T (Obj.mapFields (·.setIfInBounds 3 Value.none))) := kp_upd (by simp)
        exact k1.trans (c.mono fun x hx => by simp at hx; simp [hx])
      · have k1 : Ex [e, T] ((env :: outer).filterMap (·.frame)) s.heap (s.heap.update T (Obj.mapFields (·.setIfInBounds 3 Value.none))) := ex_upd (by simp)
        exact k1.trans (d.mono fun x hx => by simp at hx; simp [hx])
theorem flight_heap {e T : Addr} {cls fl : Value} {fr : Option Addr} {Q : Unit → Shared → Prop} (hx : ExcH s.heap e cls (some fl) T)
    (h : ∀ h', ExcH h' e cls (some (fr.elim .none fun f => rawInt f)) T → Kp [e, T] s.heap h' → Ex [e, T] [] s.heap h' → Q () { s with heap := h' }) : wpAny M A (setFlight (.ref e) fr) Q E s := by
  obtain ⟨oe, vs, he, hcls, hd, h2, h1, hTe, oT, ts, hT, hdT, h3⟩ := hx
  have hs3 := (Array.getElem?_eq_some_iff.mp h3).1
  unfold setFlight
  refine wpAny_bind (wpAny_field he hd h1 ?_)
  rw [if_pos (show (Value.ref T != Value.none) = true from by simp)]
  refine wpAny_setField hT hdT hs3 (h _ ⟨oe, vs, (Heap.get?_update_other _ _ hTe).trans he, hcls, hd, h2, h1, hTe, _, _, Heap.get?_update_self _ hT (Obj.isFreed_of_fields (Obj.data_mapFields hdT _)), Obj.data_mapFields hdT _, by simp [hs3]⟩ (kp_upd (by simp)) (ex_upd (by simp)))
end
noncomputable def Un (C : Cx) (ρ : Wd) (τ σ : Lc) (a : Addr) : Prop := ρ a = none ∧ (∀ p, p ∈ σ ++ τ → p.1 ≠ a) ∧ C.hb.get? a = none
noncomputable def Rz (C : Cx) (ρ : Wd) (τ σ : Lc) (e : Addr) (cls : Value) (tb : Option Value) (s : Shared) : Prop :=
  St C ρ τ σ s ∧ ∃ T, ExcH s.heap e cls tb T ∧ Un C ρ τ σ e ∧ (tb.isSome = true → Un C ρ τ σ T)
noncomputable def FrOk (τ : Lc) (l : List Env) : Prop := ∀ env, env ∈ l → env.scope.kind ≠ .module ∧ ∃ L m, env.frame = some L ∧ (L, AObj.fr "frame" m) ∈ τ
section
variable {C : Cx} {ρ : Wd} {τ σ : Lc} {s s' : Shared} {A : Around} {E : Value → Shared → Prop}
theorem St.kp {D S : List Addr} (T : St C ρ τ σ s) (k : Kp D s.heap s'.heap) (x : Ex D S s.heap s'.heap) (hD : ∀ d, d ∈ D → Un C ρ τ σ d) (hS : ∀ d, d ∈ S → C.hb.get? d = none) (os : s'.os = s.os) (gens : s'.gens = s.gens) : St C ρ τ σ s' := by
  refine ⟨T.amb.keep fun b o n e => x b o (fun h => n (hD b h).2.2) (fun h => n (hS b h)) e, os.trans T.os, by rw [gens]; exact T.gens, fun a y e => ⟨(T.out a y e).1.kp k fun h => ?_, (T.out a y e).2⟩, fun p hp => ⟨(T.loc p hp).1.kp k fun h => ?_, (T.loc p hp).2⟩, T.nd⟩
  · have := (hD a h).1; rw [e] at this; cases this
  · exact (hD p.1 h).2.1 p hp rfl
theorem FrOk.fun {l : List Env} (h : FrOk (σ ++ τ) l) (S : St C ρ τ σ s) : s.heap.FunFrames {} l := by
  induction l with
  | nil => trivial
  | cons env r ih =>
    obtain ⟨k, L, m, e, hm⟩ := h env (.head _)
    obtain ⟨o, _, _, ho, _, _, hd, _⟩ := (S.loc _ hm).1
    exact ⟨k, ⟨L, o, e, by simp [Heap.get?], ho, fun vs q => by rw [hd] at q; cases q⟩, ih fun x hx => h x (.tail _ hx)⟩
theorem FrOk.cls {l : List Env} (h : FrOk (σ ++ τ) l) (S : St C ρ τ σ s) {b : Addr} (hb : b ∈ l.filterMap (·.frame)) : (∀ o, s.heap.get? b = some o → o.cls = .type "frame") ∧ C.hb.get? b = none := by
  obtain ⟨env, he, hf⟩ := List.mem_filterMap.mp hb
  obtain ⟨_, L, m, e, hm⟩ := h env he
  rw [hf] at e; cases e
  obtain ⟨o', _, _, ho', c, _⟩ := (S.loc _ hm).1
  exact ⟨fun o ho => by rw [ho] at ho'; cases ho'; exact c, (S.loc _ hm).2.1⟩
theorem FrOk.mono {τ' : Lc} {l : List Env} (h : FrOk τ l) (s : ∀ p, p ∈ τ → p ∈ τ') : FrOk τ' l := fun env he => let ⟨k, L, m, e, hm⟩ := h env he; ⟨k, L, m, e, s _ hm⟩
theorem note_St {env : Env} {outer : List Env} {L e : Addr} {cls : Value} {tb : Option Value} {Q : Unit → Shared → Prop} (hA : A.frames = some (env :: outer)) (hF : FrOk (σ ++ τ) (env :: outer)) (hL : env.frame = some L) (R : Rz C ρ τ σ e cls tb s)
    (h : ∀ s', Rz C ρ τ σ e cls (some (rawInt L)) s' → Q () s') : wpAny C.M A (noteFrame (.ref e) env) Q E s := by
  obtain ⟨S, T, hx, ue, uT⟩ := R
  refine note_heap hA (hF.fun S) hL (fun b o hb ho => (hF.cls S hb).1 o ho) hx fun h' T' x n k ex => ?_
  have uD : ∀ d, d ∈ [e, if tb.isSome then T else e] → Un C ρ τ σ d := fun d hd => by
    simp only [List.mem_cons, List.not_mem_nil, or_false] at hd
    rcases hd with rfl | rfl
    · exact ue
    · split
      · rename_i q; exact uT q
      · exact ue
  refine h _ ⟨S.kp k ex uD (fun d hd => (hF.cls S hd).2) rfl rfl, T', x, ue, fun _ => ?_⟩
  rcases n with ⟨rfl, q⟩ | n
  · exact uT q
  · have f := S.fresh n
    exact ⟨f.1, f.2.1, f.2.2⟩
theorem flight_St {e : Addr} {cls fl : Value} {fr : Option Addr} {Q : Unit → Shared → Prop} (R : Rz C ρ τ σ e cls (some fl) s) (h : ∀ s', Rz C ρ τ σ e cls (some (fr.elim .none fun f => rawInt f)) s' → Q () s') : wpAny C.M A (setFlight (.ref e) fr) Q E s := by
  obtain ⟨S, T, hx, ue, uT⟩ := R
  refine flight_heap hx fun h' x k ex => h _ ⟨S.kp k ex (fun d hd => ?_) (fun d hd => nomatch hd) rfl rfl, T, x, ue, uT⟩
  simp only [List.mem_cons, List.not_mem_nil, or_false] at hd
  rcases hd with rfl | rfl
  · exact ue
  · exact uT rfl
theorem leave_St {env : Env} {outer : List Env} {L e : Addr} {cls : Value} {tb : Option Value} {Q : Unit → Shared → Prop} (hA : A.frames = some (env :: outer)) (hF : FrOk (σ ++ τ) (env :: outer)) (hL : env.frame = some L) (R : Rz C ρ τ σ e cls tb s)
    (h : ∀ s', Rz C ρ τ σ e cls (some .none) s' → Q () s') : wpAny C.M A (leaving env (.ref e)) Q E s := by
  unfold leaving
  exact wpAny_bind (note_St hA hF hL R fun s' R => flight_St (fr := none) R h)
theorem noted_St {env : Env} {outer : List Env} {L e : Addr} {cls : Value} {tb : Option Value} (hA : A.frames = some (env :: outer)) (hF : FrOk (σ ++ τ) (env :: outer)) (hL : env.frame = some L) (R : Rz C ρ τ σ e cls tb s)
    (h : ∀ s', Rz C ρ τ σ e cls (some (rawInt L)) s' → E (.ref e) s') : notedBy C.M A env E (.ref e) s := note_St hA hF hL R h
theorem came_St {env : Env} {L e : Addr} {cls fl : Value} (hL : env.frame = some L) (R : Rz C ρ τ σ e cls (some fl) s)
    (h : ∀ s', Rz C ρ τ σ e cls (some (rawInt L)) s' → E (.ref e) s') : cameBackBy C.M A env E (.ref e) s := by
  unfold cameBackBy
  have R' := R
  obtain ⟨S, T, ⟨oe, vs, he, _, hd, _, h1, _⟩, _⟩ := R'
  refine wpAny_bind (wpAny_field he hd h1 ?_)
  rw [if_neg (by simp)]
  rw [hL]
  exact flight_St (fr := some L) R h
theorem Rz.sub {e : Addr} {cls : Value} {tb : Option Value} {τ' σ' : Lc} (R : Rz C ρ τ σ e cls tb s) (h : (σ' ++ τ').Sublist (σ ++ τ)) : Rz C ρ τ' σ' e cls tb s :=
  let ⟨S, T, x, u, v⟩ := R
  ⟨S.sub h, T, x, ⟨u.1, fun p hp => u.2.1 p (h.mem hp), u.2.2⟩, fun q => ⟨(v q).1, fun p hp => (v q).2.1 p (h.mem hp), (v q).2.2⟩⟩
theorem Rz.back {e : Addr} {cls : Value} {tb : Option Value} (R : Rz C ρ (σ ++ τ) [] e cls tb s) : Rz C ρ τ σ e cls tb s := let ⟨S, T, x, u, v⟩ := R; ⟨S.back0, T, x, u, v⟩
theorem Rz.forget {e : Addr} {cls : Value} {tb : Option Value} (R : Rz C ρ τ σ e cls tb s) : Rz C ρ τ [] e cls tb s := R.sub (List.sublist_append_right ..)
end
end Mine
end
section
open PySem PySem.W PyProof.Rows PySem.Calls
set_option Elab.async false
set_option maxRecDepth 100000
set_option linter.unusedVariables false
set_option linter.unusedSimpArgs false
namespace Mine
open PySem (Sem Str Value Heap Obj Shared)
section
variable {prog : Program} {w : World} {A : Around} {E : Value → Shared → Prop} {h : Heap} {g : Array GenState} {d : Drawn} {t : Nat} {os : OsState} {R : Result → Shared → Prop}
variable {nm q : Str} {C N : Addr} {bs bm : List Value} {hdct : Bool} {sn : List Str} {sub : List Value} {ab : Bool} {col : Option Bool} {dd : Option Addr} {k0 k1 k2 k3 k5 : Option Value} {B newId initId : String}
theorem exc_make {rest : List Value} {init : Value} (F : ExcBaseFacts B newId initId bm) (hC : h.get? C = some (excClassObj nm q C N bs bm hdct sn sub ab col dd k0 k1 k2 k3 k5 newId))
    (hi : Looks (model prog w) h (typeLookup (.ref C) "__init__") (some init)) (hb : ∀ self, Looks (model prog w) h (bindSpecial init self) (init, [self])) (hrest : rest.length ≤ sizeLine)
    (hq : codeAny (model prog w) (A.under (.builtin "type.__call__" ⟨.ref C :: rest, []⟩)) (.call init ⟨.ref (h.objs.size + 1) :: rest, []⟩) (InitBack (h.objs.size + 1) R)
      ⟨(h.push { cls := .type "tuple", data := .seq rest.toArray }).push { cls := .ref C, data := .fields #[.ref h.objs.size, .none, .none, .none, .bool false, .none] }, g, d, t, os⟩) :
    codeAny (model prog w) A (.call (.ref C) ⟨rest, []⟩) R ⟨h, g, d, t, os⟩ := by
  have f1 := tc_lookup
  have f2 := tc_bind (.ref C)
  have hT : (⟨h, g, d, t, os⟩ : Shared).TypeIs (.ref C) "type" := ⟨_, hC, rfl⟩
  refine codeAny_of_tree ?_
  show wpAny _ _ (callAny (.ref C) _) _ _ _
  repeat (any_goals (first | assumption | with_reducible refine wpAny_loadPart_at hC ?_ | wp_step))
  refine ⟨rfl, ?_⟩
  show codeAny _ _ (.call (.builtin "type.__call__") ⟨.ref C :: rest, []⟩) R _
  refine codeAny_call_builtin_at (Code.quiet_builtin _ (by decide +kernel)) entry_typeCall (wpAny_check_type_call_sub hC ?_)
  repeat (first | with_reducible refine wpAny_loadPart_at hC ?_ | with_reducible refine wpAny_madeBy_exc hC ?_ | wp_step)
  refine codeAny_call_builtin_code (Code.quiet_builtin _ F.quiet) (wpAny_check_new_sub F hC ?_)
  refine codeAny_exc_new_sub F hC ?_ hrest
  show wpAny _ _ _ _ _ _
  have hC₁ := Heap.get?_push_of_some { cls := .ref C, data := .fields #[.ref h.objs.size, .none, .none, .none, .bool false, .none] }
    (Heap.get?_push_of_some { cls := .type "tuple", data := .seq rest.toArray } hC)
  have hget : ((h.push { cls := .type "tuple", data := .seq rest.toArray }).push
      { cls := .ref C, data := .fields #[.ref h.objs.size, .none, .none, .none, .bool false, .none] }).get? (h.objs.size + 1) = some
      { cls := .ref C, data := .fields #[.ref h.objs.size, .none, .none, .none, .bool false, .none] } := by heap_get
  have hcC : (Value.ref C :: bm).contains (.ref C) = true := by simp
  have kp : ∀ b o, h.get? b = some o → ((h.push { cls := .type "tuple", data := .seq rest.toArray }).push { cls := .ref C, data := .fields #[.ref h.objs.size, .none, .none, .none, .bool false, .none] }).get? b = some o :=
    fun b o e => Heap.get?_push_of_some _ (Heap.get?_push_of_some _ e)
  have i1 := hi.keeps kp
  have b1 := (hb (.ref (h.objs.size + 1))).keeps kp
  have t1 : Looks (model prog w) ((h.push { cls := .type "tuple", data := .seq rest.toArray }).push { cls := .ref C, data := .fields #[.ref h.objs.size, .none, .none, .none, .bool false, .none] }) (typeOf (.ref (h.objs.size + 1))) (.ref C) := (Looks.ld hget).andThen .now
  unfold isInstance
  repeat (first | with_reducible refine wpAny_loadPart_at hget ?_ | (with_reducible refine wpAny_isSubtype_exc hC₁ ?_; rw [hcC]) | wp_step)
  show wpAny _ _ (typeLookup (.ref C) _) _ _ _
  refine i1.here ?_
  dsimp only
  repeat (first | with_reducible refine wpAny_call ?_ | lk)
  refine codeAny_mono hq fun r s' z => ?_
  rcases r with e | (v | _ | _ | _) <;> first | exact z | exact z.elim | skip
  obtain ⟨rfl, z⟩ := z
  exact wpAny_pure (wpAny_pure z)
end
end Mine
end
section
open PySem PySem.W PyProof.Rows PySem.Calls PySem.Builtin PySem.Builtin.ObjectAttr
set_option Elab.async false
set_option maxRecDepth 100000
set_option linter.unusedVariables false
set_option linter.unusedSimpArgs false
namespace Mine
open PySem (Sem Str Value Heap Obj Shared)
theorem store_TE : StoreFacts "TypeError" [.type "TypeError", .type "Exception", .type "BaseException", .type "object"] "object.__setattr__" "object" where
  mro := by kernel_rfl
  slot := .of (owner := "object") (n := "__setattr__") (by rw [typeLookup_type, builtinLookup_eq_fast]; kernel_rfl) (by decide +kernel) (by decide +kernel) (by decide +kernel)
    (by first | exact .inl (by decide +kernel) | exact .inr (by decide +kernel)) (by rw [isSubtype_type]; kernel_rfl)
  entry := F.entry_object_sa
  kind := by decide +kernel
  split := by decide +kernel
  hasOwner := by decide +kernel
  args := fun a b c => by unfold argsOk; kernel_rfl
  passes := fun self => by kernel_rfl
theorem te_no_C : typeLookup (.type "TypeError") "C" = pure none := by rw [typeLookup_type, builtinLookup_eq_fast]; kernel_rfl
theorem te_no_btr : typeLookup (.type "TypeError") "base_tree_remaining" = pure none := by rw [typeLookup_type, builtinLookup_eq_fast]; kernel_rfl
section
variable {prog : Program} {w : World} {A : Around} {E : Value → Shared → Prop} {s : Shared}
variable {nm q : Str} {C N x : Addr} {bs bm : List Value} {sn : List Str} {sub : List Value} {ab : Bool} {col : Option Bool} {dd : Option Addr} {k0 k1 k2 k3 k5 : Option Value} {B newId sa owner : String}
  {mN : Str → Option Value} {name : Str} {v : Value}
theorem exc_set {o : Obj} {Q : Unit → Shared → Prop} (SF : StoreFacts B bm sa owner) (hC : s.heap.get? C = some (excClassObj nm q C N bs bm true sn sub ab col dd k0 k1 k2 k3 k5 newId)) (hn : s.heap.Ns N mN) (hns : mN "__setattr__" = none) (hna : mN name = none)
    (hB : typeLookup (.type B) name = pure none) (hx : s.heap.get? x = some o) (hc : o.cls = .ref C)
    (hnc : ∀ c, o.data ≠ .cls c)
    (h : ∀ d h1, (o.dict = some d ∧ h1 = s.heap) ∨ (o.dict = none ∧ d = s.heap.objs.size ∧ h1 = (s.heap.push emptyDict).update x fun o => { o with dict := some d }) →
      wpAny (model prog w) A.in1 (storeInDict d (.str name s.toks) name v) (fun fin s' => fin = .done (.ret .none) ∧ Q () s') E { s with heap := h1, toks := s.toks + 1 }) :
    wpAny (model prog w) A (setAttr (.ref x) name v) Q E s := by
  obtain ⟨hp, g, d, t, os⟩ := s
  have f3 := SF.slot.bind (.ref x)
  have hpass := SF.passes (.ref x)
  unfold setAttr callSpecial? specialOf
  repeat (any_goals (first | assumption | (with_reducible refine wpAny_loadPart_at hx ?_; rw [hc]) | (with_reducible refine wpAny_typeLookup_exc hC hn SF.mro SF.slot.lookup ?_; rw [hns]) | wp_step))
  refine codeAny_call_builtin SF.slot.plain SF.entry (wpAny_check_sa SF hC hx hc ?_)
  show wpAny _ _ (Builtin.«object.__setattr__» ⟨[.ref x, .str name t, v], []⟩) _ _ _
  rw [osa_eq]
  repeat (first | rw [refuse_eq] | (rw [refuseLoop_ref, hpass]) | (with_reducible refine wpAny_loadPart_at hx ?_; rw [hc]) | with_reducible refine wpAny_mroOf_exc hC ?_ | (with_reducible refine wpAny_typeLookup_exc hC hn SF.mro hB ?_; rw [hna]) | wp_step)
  cases hd : o.dict with
  | some dx =>
    refine wpAny_pure ?_
    show wpAny _ _ (storeInDict dx (.str name t) name v) _ _ _
    refine wpAny_mono (h dx hp (.inl ⟨hd, rfl⟩)) (fun fin s' hf => ?_) fun _ _ e => e
    obtain ⟨rfl, hq⟩ := hf
    exact wpAny_pure (wpAny_pure hq)
  | none =>
    rw [if_neg (by simp [typeHasDict])]
    split
    · rename_i hcd; cases hcd
    split
    · rename_i c hcd; exact absurd hcd (hnc c)
    · have hx₁ : (hp.push { cls := .type "dict", data := .dict #[] }).get? x = some o := Heap.get?_push_of_some _ hx
      refine wpAny_bind (wpAny_alloc' ?_)
      refine wpAny_bind (wpAny_update' hx₁ ?_)
      refine wpAny_pure ?_
      show wpAny _ _ (storeInDict hp.objs.size (.str name t) name v) _ _ _
      refine wpAny_mono (h hp.objs.size _ (.inr ⟨hd, rfl, rfl⟩)) (fun fin s' hf => ?_) fun _ _ e => e
      obtain ⟨rfl, hq⟩ := hf
      exact wpAny_pure (wpAny_pure hq)
end
inductive ExcCls (C : Cx) (Cl : Addr) (newId : String) (bm : List Value) (no : List Str) : Prop
  | mk (nm q : Str) (N : Addr) (bs : List Value) (sn : List Str) (sub : List Value) (ab : Bool) (col : Option Bool) (dd : Option Addr) (k0 k1 k2 k3 k5 : Option Value) (mN : Str → Option Value)
      (hC : C.K.lookup Cl = some (excClassObj nm q Cl N bs bm true sn sub ab col dd k0 k1 k2 k3 k5 newId)) (hN : C.hb.Ns N mN) (hno : ∀ x, x ∈ no → mN x = none) : ExcCls C Cl newId bm no
noncomputable abbrev excNew (Cl : Addr) (t : Addr) : Obj := { cls := .ref Cl, data := .fields #[.ref t, .none, .none, .none, .bool false, .none] }
section
variable {C : Cx} {ρ : Wd} {τ σ : Lc} {s : Shared} {A : Around} {E : Value → Shared → Prop} {R : Result → Shared → Prop}
theorem store_dict {A : Around} {z : Nat} {d : Addr} {m : Mp} {name : Str} {v : Value} {tk : Tok} {Q : Fin → Shared → Prop} (hn : NsD z s.heap d m) (hz : z ≤ 1000)
    (h : ∀ h', NsD (if (m name).isSome then z else z + 1) h' d (m.put name v) → Heap.SameBut d s.heap h' → Q (.done (.ret .none)) { s with heap := h', toks := s.toks + 1 }) :
    wpAny C.M A (storeInDict d (.str name tk) name v) Q E s := by
  unfold storeInDict newKeyGuard
  refine wpAny_bind (wpAny_pure (wpAny_bind (nsSet_d hn fun h' n' hs => ?_)))
  have n2 := n'
  obtain ⟨o3, es3, ep3, e3, _, _, d3, _, _, b3⟩ := n2
  refine wpAny_bind (wpAny_lookBehind e3 (by rw [d3]; exact pastItsLine_dict (Nat.le_trans b3 (by rw [sizeLine_eq]; split <;> omega))) ?_)
  exact wpAny_pure (h h' n' hs)
variable {Cl x : Addr} {newId B : String} {bm : List Value} {no : List Str} {name : Str} {v : Value} {Q : Unit → Shared → Prop}
theorem excSet0 {o : Obj} {sa owner : String} (SF : StoreFacts B bm sa owner) (X : ExcCls C Cl newId bm no) (h1 : ("__setattr__" : Str) ∈ no) (h2 : name ∈ no) (hB : typeLookup (.type B) name = pure none) (S : St C ρ τ σ s) (ex : ρ x = some (.raw o)) (hc : o.cls = .ref Cl) (hnc : ∀ c, o.data ≠ .cls c) (hd : o.dict = none)
    (h : ∀ d s', ρ d = none → d ≠ x → St C (upd (upd ρ d (.nsd 1 (Mp.put (fun _ => none) name v))) x (.raw { o with dict := some d })) τ σ s' → Q () s') : wpAny C.M A (setAttr (.ref x) name v) Q E s := by
  obtain ⟨nm, q, N, bs, sn, sub, ab, col, dd, k0, k1, k2, k3, k5, mN, hC, hN, hno⟩ := X
  obtain ⟨o', hx, sx⟩ := S.o ex
  have eo := sx.eq (by rw [hc]; exact fun q => nomatch q)
  subst eo
  refine exc_set SF (S.amb.x _ _ hC) (ns_amb S.amb hN) (hno _ h1) (hno _ h2) hB hx hc hnc fun d h1 hcase => ?_
  rcases hcase with ⟨q, _⟩ | ⟨_, rfl, rfl⟩
  · rw [hd] at q; cases q
  have hxs : x ≠ s.heap.objs.size := Nat.ne_of_lt (Heap.lt_size hx)
  have hx1 : (s.heap.push emptyDict).get? x = some o' := Heap.get?_push_of_some _ hx
  have n0 : NsD 0 ((s.heap.push emptyDict).update x fun o => { o with dict := some s.heap.objs.size }) s.heap.objs.size fun _ => none := by
    obtain ⟨o1, es, ep, e1, r⟩ := nsd_new s.heap
    exact ⟨o1, es, ep, (Heap.get?_update_ne _ _ _ _ hxs.symm).trans e1, r⟩
  have fz := S.fresh (none_size s.heap)
  have S1 := S.addO (pushG s emptyDict) (none_size _) (x := .nsd 0 fun _ => none) (nsd_new s.heap)
  have ex1 : upd ρ s.heap.objs.size (.nsd 0 fun _ => none) x = some (.raw o') := by rw [upd_ne _ _ hxs]; exact ex
  have S2 := S1.setO (s' := { s with heap := (s.heap.push emptyDict).update x fun o => { o with dict := some s.heap.objs.size }, toks := s.toks + 1 }) ex1 ⟨fun b o n e => (Heap.get?_update_ne _ _ _ _ n).trans e, rfl, fun x => x⟩
    (y := .raw { o' with dict := some s.heap.objs.size }) ⟨_, Heap.get?_update_self _ hx1 (by
      have hfr := (Heap.get?_some_iff.mp hx).2
      obtain ⟨oc, od, odt, osl⟩ := o'
      cases odt <;> first | rfl | exact hfr), .refl _⟩
  refine store_dict (s := { s with heap := (s.heap.push emptyDict).update x fun o => { o with dict := some s.heap.objs.size }, toks := s.toks + 1 }) n0 (Nat.zero_le _) fun h' n' hs => ⟨rfl, ?_⟩
  have ed : upd (upd ρ s.heap.objs.size (.nsd 0 fun _ => none)) x (.raw { o' with dict := some s.heap.objs.size }) s.heap.objs.size = some (.nsd 0 fun _ => none) := by rw [upd_ne _ _ hxs.symm, upd_self]
  have S3 := S2.setO (s' := { s with heap := h', toks := s.toks + 1 + 1 }) ed ⟨hs.extBut, rfl, fun x => x⟩ (y := .nsd 1 (Mp.put (fun _ => none) name v)) n'
  refine h s.heap.objs.size _ fz.1 hxs.symm (S3.mono ?_)
  intro a y e
  by_cases q1 : a = x
  · subst q1; rw [upd_self] at e; rw [upd_ne _ _ hxs, upd_self]; exact e
  · rw [upd_ne _ _ q1] at e
    by_cases q2 : a = s.heap.objs.size
    · subst q2; rw [upd_self] at e; rw [upd_self]; exact e
    · rw [upd_ne _ _ q2] at e; rw [upd_ne _ _ q2, upd_ne _ _ q1, upd_ne _ _ q2]; exact e
theorem excSet1 {o : Obj} {sa owner : String} {d : Addr} {z : Nat} {m : Mp} (SF : StoreFacts B bm sa owner) (X : ExcCls C Cl newId bm no) (h1 : ("__setattr__" : Str) ∈ no) (h2 : name ∈ no) (hB : typeLookup (.type B) name = pure none) (S : St C ρ τ σ s) (ex : ρ x = some (.raw o)) (hc : o.cls = .ref Cl) (hnc : ∀ c, o.data ≠ .cls c) (hd : o.dict = some d) (ed : ρ d = some (.nsd z m)) (hz : z ≤ 1000)
    (h : ∀ s', St C (upd ρ d (.nsd (if (m name).isSome then z else z + 1) (m.put name v))) τ σ s' → Q () s') : wpAny C.M A (setAttr (.ref x) name v) Q E s := by
  obtain ⟨nm, q, N, bs, sn, sub, ab, col, dd, k0, k1, k2, k3, k5, mN, hC, hN, hno⟩ := X
  obtain ⟨o', hx, sx⟩ := S.o ex
  have eo := sx.eq (by rw [hc]; exact fun q => nomatch q)
  subst eo
  refine exc_set SF (S.amb.x _ _ hC) (ns_amb S.amb hN) (hno _ h1) (hno _ h2) hB hx hc hnc fun d' h1 hcase => ?_
  rcases hcase with ⟨q, rfl⟩ | ⟨q, _⟩
  · rw [hd] at q; cases q
    refine store_dict (s := { s with toks := s.toks + 1 }) (S.o ed) hz fun h' n' hs => ⟨rfl, h _ (S.setO ed ⟨hs.extBut, rfl, fun x => x⟩ n')⟩
  · rw [hd] at q; cases q
end
end Mine
end
section
open PySem PySem.W PyProof.Rows PySem.Calls
set_option Elab.async false
set_option maxRecDepth 100000
set_option linter.unusedVariables false
set_option linter.unusedSimpArgs false
namespace Mine
open PySem (Sem Str Value Heap Obj Shared)
section
variable {prog : Program} {w : World} {A : Around} {E : Value → Shared → Prop} {env : Env} {h : Heap} {g : Array GenState} {d : Drawn} {t : Nat} {os : OsState}
variable {nm q : Str} {C N : Addr} {bs bm : List Value} {hdct : Bool} {sn : List Str} {sub : List Value} {ab : Bool} {col : Option Bool} {dd : Option Addr} {k0 k1 k2 k3 k5 : Option Value} {B newId initId : String}
theorem isSub_nested {k : Value} {dep : Int} {tk : Tok} {Q : Fin → Shared → Prop} (hk : k = .int dep tk) (hC : h.get? C = some (excClassObj nm q C N bs bm hdct sn sub ab col dd k0 k1 k2 k3 k5 newId)) (hq : Q (.done (.ret (.bool true))) ⟨h, g, d, t, os⟩) :
    wpAny (model prog w) A (Builtin.«issubclass.nested» ⟨[.ref C, .ref C, k], []⟩) Q E ⟨h, g, d, t, os⟩ := by
  subst hk
  have hcC : (Value.ref C :: bm).contains (.ref C) = true := by simp
  repeat (any_goals (first | assumption | with_reducible refine wpAny_loadPart_at hC ?_ | (with_reducible refine wpAny_isSubtype_exc hC ?_; rw [hcC]) | wp_step))
theorem isSub_meets : Meets (Builtin.«issubclass» ⟨[.ref C, .ref C], []⟩) (fun _ R s => s.heap.get? C = some (excClassObj nm q C N bs bm hdct sn sub ab col dd k0 k1 k2 k3 k5 newId) ∧ R (.ok (.ret (.bool true))) s) :=
  fun _ _ _ _ s hs => by
    obtain ⟨h, g, d, t, os⟩ := s
    exact issubclass_outer (isSub_nested rfl hs.1 hs.2)
theorem isSub_call {Q : Value → Shared → Prop} (hC : h.get? C = some (excClassObj nm q C N bs bm hdct sn sub ab col dd k0 k1 k2 k3 k5 newId)) (hq : Q (.bool true) ⟨h, g, d, t, os⟩) :
    wpAny (model prog w) A (call (.builtin "issubclass") [.ref C, .ref C]) Q E ⟨h, g, d, t, os⟩ := call_issubclass isSub_meets ⟨hC, hq⟩
theorem isExc {M : Model} {Q : Bool → Shared → Prop} (hC : h.get? C = some (excClassObj nm q C N bs bm hdct sn sub ab col dd k0 k1 k2 k3 k5 newId)) (hb : bm.contains (.type "BaseException") = true) (hq : Q true ⟨h, g, d, t, os⟩) : wpAny M A (isExcClass (.ref C)) Q E ⟨h, g, d, t, os⟩ := by
  have hcB : (Value.ref C :: bm).contains (.type "BaseException") = true := by rw [List.contains_cons, hb, Bool.or_true]
  unfold isExcClass
  repeat (first | with_reducible refine wpAny_loadPart_at hC ?_ | (with_reducible refine wpAny_isSubtype_exc hC ?_; rw [hcB]) | wp_step)
  exact hq
theorem isTypeC {M : Model} {Q : Bool → Shared → Prop} (hC : h.get? C = some (excClassObj nm q C N bs bm hdct sn sub ab col dd k0 k1 k2 k3 k5 newId)) (hq : Q true ⟨h, g, d, t, os⟩) : wpAny M A (isType (.ref C)) Q E ⟨h, g, d, t, os⟩ := by
  repeat (first | with_reducible refine wpAny_loadPart_at hC ?_ | wp_step)
  exact hq
theorem isBase {M : Model} {e : Addr} {oe : Obj} {Q : Bool → Shared → Prop} (hC : h.get? C = some (excClassObj nm q C N bs bm hdct sn sub ab col dd k0 k1 k2 k3 k5 newId)) (hb : bm.contains (.type "BaseException") = true) (he : h.get? e = some oe) (hcls : oe.cls = .ref C) (hq : Q true ⟨h, g, d, t, os⟩) : wpAny M A (isInstance (.ref e) (.type "BaseException")) Q E ⟨h, g, d, t, os⟩ := by
  have hcB : (Value.ref C :: bm).contains (.type "BaseException") = true := by rw [List.contains_cons, hb, Bool.or_true]
  unfold isInstance
  repeat (first | (with_reducible refine wpAny_loadPart_at he ?_; rw [hcls]) | with_reducible refine wpAny_loadPart_at hC ?_ | (with_reducible refine wpAny_isSubtype_exc hC ?_; rw [hcB]) | wp_step)
  exact hq
theorem raise_class (F : ExcBaseFacts B newId initId bm) {mN : Str → Option Value} {x : Str} {np pos : Pos} {Q : Flow → Shared → Prop} (hh : A.handled = none) (hC : h.get? C = some (excClassObj nm q C N bs bm hdct sn sub ab col dd k0 k1 k2 k3 k5 newId)) (hn : h.Ns N mN) (hni : mN "__init__" = none)
    (hx : ∀ Q' : Value → Shared → Prop, Q' (.ref C) ⟨h, g, d, t, os⟩ → wpAny (model prog w) A (eval (.Name x np) env) Q' E ⟨h, g, d, t, os⟩)
    (hE : ∀ h' e, Heap.MadeExcOf h h' e (.ref C) [] → E (.ref e) ⟨h', g, d, t, os⟩) :
    wpAny (model prog w) A (exec (.Raise (some (.Name x np)) none pos) env) Q E ⟨h, g, d, t, os⟩ := by
  have hcB : (Value.ref C :: bm).contains (.type "BaseException") = true := by rw [List.contains_cons, F.hasBase, Bool.or_true]
  show wpAny (model prog w) A (do standAt pos; raiseStmt env (some (do let v ← eval (.Name x np) env; standAt pos; pure v)) none) Q E _
  refine wpAny_bind (wpAny_standAt ?_)
  unfold raiseStmt
  dsimp only
  refine wpAny_bind (wpAny_bind (hx _ (wpAny_bind (wpAny_standAt (wpAny_pure ?_)))))
  refine wpAny_bind (wpAny_pure ?_)
  dsimp only
  refine wpAny_bind (wpAny_holding ?_)
  unfold excFromValue
  refine wpAny_bind (isExc hC F.hasBase ?_)
  rw [if_pos rfl]
  refine wpAny_bind (wpAny_call_exc_sub F hC hn hni (fun h' e hm => ?_) (by rw [sizeLine_eq]; exact Nat.zero_le _))
  obtain ⟨tp, he, _, _⟩ := hm.there
  have hC' := hm.keeps _ _ hC
  refine wpAny_bind (isBase hC' F.hasBase he rfl ?_)
  simp only [Bool.not_true, Bool.false_eq_true, if_false]
  refine wpAny_pure ?_
  refine wpAny_bind (isTypeC hC' ?_)
  rw [if_pos rfl]
  refine wpAny_bind (wpAny_holding ?_)
  unfold raisedFor
  first | (simp only [Bool.false_eq_true, if_false]) | (rw [if_neg (by decide)]) | skip
  first | (refine wpAny_bind (wpAny_typeOf_ref he ?_)) | (refine wpAny_bind ?_; refine wpAny_bind (wpAny_typeOf_ref he ?_))
  refine wpAny_bind (isSub_call hC' ?_)
  first | (refine wpAny_bind (wpAny_truthy_bool ?_)) | (refine wpAny_truthy_bool ?_)
  first | (rw [if_pos rfl]) | (simp only [if_true]) | skip
  refine wpAny_pure ?_
  unfold setFlight raiseNew
  refine wpAny_bind (wpAny_bind (wpAny_field (i := 1) (x := Value.none) he rfl rfl ?_))
  rw [if_neg (by decide)]
  refine wpAny_pure (wpAny_bind (wpAny_handled ?_))
  rw [hh]
  first
    | exact wpAny_throw (hE h' e hm)
    | exact wpAny_bind (wpAny_pure (wpAny_throw (hE h' e hm)))
theorem raise_inst (hb : bm.contains (.type "BaseException") = true) {ex : Expr} {pos : Pos} {s : Shared} {Q : Flow → Shared → Prop} (hh : A.handled = none)
    (hx : wpAny (model prog w) A (eval ex env) (fun v s₁ => ∃ e oe vs, v = .ref e ∧ s₁.heap.get? C = some (excClassObj nm q C N bs bm hdct sn sub ab col dd k0 k1 k2 k3 k5 newId) ∧ s₁.heap.get? e = some oe ∧ oe.cls = .ref C ∧ oe.data = .fields vs ∧ vs[1]? = some .none ∧ E (.ref e) s₁) E s) :
    wpAny (model prog w) A (exec (.Raise (some ex) none pos) env) Q E s := by
  show wpAny (model prog w) A (do standAt pos; raiseStmt env (some (do let v ← eval ex env; standAt pos; pure v)) none) Q E _
  refine wpAny_bind (wpAny_standAt ?_)
  unfold raiseStmt
  dsimp only
  refine wpAny_bind (wpAny_bind (wpAny_mono hx (fun v s₁ h₁ => wpAny_bind (wpAny_standAt (wpAny_pure ?_))) fun _ _ e => e))
  obtain ⟨e, oe, vs, rfl, hC, he, hc, hd, h1, hE⟩ := h₁
  obtain ⟨hp, g, d, tk, os⟩ := s₁
  refine wpAny_bind (wpAny_pure ?_)
  dsimp only
  refine wpAny_bind (wpAny_holding ?_)
  have notType : ∀ {Q : Bool → Shared → Prop}, Q false ⟨hp, g, d, tk, os⟩ → wpAny (model prog w) A (isType (.ref e)) Q E ⟨hp, g, d, tk, os⟩ := by
    intro Q hq
    obtain ⟨oc, od, odt, osl⟩ := oe
    dsimp only at hc hd
    subst hc hd
    repeat (first | with_reducible refine wpAny_loadPart_at he ?_ | wp_step)
    exact hq
  unfold excFromValue isExcClass
  refine wpAny_bind (wpAny_bind (notType ?_))
  rw [if_neg Bool.false_ne_true]
  refine wpAny_pure ?_
  rw [if_neg Bool.false_ne_true]
  refine wpAny_bind (isBase hC hb he hc ?_)
  rw [if_pos rfl]
  refine wpAny_pure ?_
  refine wpAny_bind (notType ?_)
  rw [if_neg Bool.false_ne_true]
  refine wpAny_bind ?_
  unfold raisedInstance
  refine wpAny_bind (wpAny_typeOf_ref he ?_)
  rw [hc]
  refine wpAny_bind (wpAny_typeOf_ref hC ?_)
  rw [if_pos (by rfl)]
  refine wpAny_pure ?_
  unfold setFlight raiseNew
  refine wpAny_bind (wpAny_bind (wpAny_field (i := 1) (x := Value.none) he hd h1 ?_))
  rw [if_neg (by decide)]
  refine wpAny_pure (wpAny_bind (wpAny_handled ?_))
  rw [hh]
  first
    | exact wpAny_throw hE
    | exact wpAny_bind (wpAny_pure (wpAny_throw hE))
end
end Mine
end
section
open PySem PySem.W PyProof.Rows PySem.Calls
set_option Elab.async false
set_option maxRecDepth 100000
set_option linter.unusedVariables false
set_option linter.unusedSimpArgs false
namespace Mine
open PySem (Sem Str Value Heap Obj Shared)
section
variable {M : Model} {A : Around} {E : Value → Shared → Prop} {h : Heap} {g : Array GenState} {d : Drawn} {t : Nat} {os : OsState}
variable {nm q : Str} {C N : Addr} {bs bm : List Value} {hdct : Bool} {sn : List Str} {sub : List Value} {ab : Bool} {col : Option Bool} {dd : Option Addr} {k0 k1 k2 k3 k5 : Option Value} {newId : String}
variable {nm' q' : Str} {C' N' : Addr} {bs' bm' : List Value} {hdct' : Bool} {sn' : List Str} {sub' : List Value} {ab' : Bool} {col' : Option Bool} {dd' : Option Addr} {k0' k1' k2' k3' k5' : Option Value} {newId' : String}
theorem excMatch_other {e : Addr} {oe : Obj} {Q : Bool → Shared → Prop} (hC : h.get? C = some (excClassObj nm q C N bs bm hdct sn sub ab col dd k0 k1 k2 k3 k5 newId)) (hC' : h.get? C' = some (excClassObj nm' q' C' N' bs' bm' hdct' sn' sub' ab' col' dd' k0' k1' k2' k3' k5' newId'))
    (he : h.get? e = some oe) (hcls : oe.cls = .ref C) (hbase : bm'.contains (.type "BaseException") = true) (hno : (Value.ref C :: bm).contains (.ref C') = false)
    (hq : Q false ⟨h, g, d, t, os⟩) : wpAny M A (excMatches (.ref e) (.ref C')) Q E ⟨h, g, d, t, os⟩ := by
  have hcB : (Value.ref C' :: bm').contains (.type "BaseException") = true := by rw [List.contains_cons, hbase, Bool.or_true]
  have f := tc_notTuple
  unfold excMatches
  repeat (first | (with_reducible refine wpAny_loadPart_at he ?_; rw [hcls]) | with_reducible refine wpAny_loadPart_at hC' ?_ | with_reducible refine wpAny_loadPart_at hC ?_ | (with_reducible refine wpAny_isSubtype_exc hC' ?_; rw [hcB]) | (with_reducible refine wpAny_isSubtype_exc hC ?_; rw [hno]) | wp_step)
  exact hq
end
section
variable {C : Cx} {ρ : Wd} {τ σ : Lc} {s : Shared} {A : Around} {E : Value → Shared → Prop}
theorem pass_St {α : Type} {what : String} {env : Env} {L e : Addr} {cls fl : Value} {Q : α → Shared → Prop} (hL : env.frame = some L) (R : Rz C ρ τ σ e cls (some fl) s) (h : ∀ s', Rz C ρ τ σ e cls (some (rawInt L)) s' → E (.ref e) s') :
    wpAny C.M A (PySem.passOn what (.ref e) env : Sem α) Q E s := by
  unfold PySem.passOn
  have R' := R
  obtain ⟨S, T, ⟨oe, vs, he, _, hd, _, h1, _⟩, _⟩ := R'
  refine wpAny_bind (wpAny_field he hd h1 ?_)
  rw [if_neg (by simp)]
  rw [hL]
  exact wpAny_bind (flight_St (fr := some L) R fun s' Z => wpAny_throw (h s' Z))
theorem Rz.name {e : Addr} {cls : Value} {tb : Option Value} (R : Rz C ρ τ σ e cls tb s) : St C (upd ρ e excO) τ σ s ∧ ρ e = none := by
  obtain ⟨S, T, ⟨oe, vs, he, _, hd, h2, _⟩, u, _⟩ := R
  refine ⟨⟨S.amb, S.os, S.gens, fun b z hz => ?_, fun p hp => ⟨(S.loc p hp).1, (S.loc p hp).2.1, ?_⟩, S.nd⟩, u.1⟩
  · by_cases q : b = e
    · subst q; rw [upd_self] at hz; cases hz; exact ⟨⟨oe, he, vs, hd, h2⟩, .inl u.2.2⟩
    · rw [upd_ne _ _ q] at hz; exact S.out b z hz
  · rw [upd_ne _ _ (u.2.1 p hp)]; exact (S.loc p hp).2.2
theorem cTrueInt {i : Int} {k : Nat} {pos : Pos} {env : Env} {Q : Bool → Shared → Prop} (S : St C ρ τ σ s) (hi : i ≠ 0) (h : ∀ s', St C ρ τ σ s' → Q true s') : wpAny C.M A (isTrue (.Constant (.int i) k pos) env (eval (.Constant (.int i) k pos) env)) Q E s :=
  isTrue_plain (cInt S fun t s' S => P.truthy_int (by rw [show (i != 0) = true by simpa using hi]; exact h s' S))
end
end Mine
end
section
open PySem PySem.W PyProof.Rows PySem.Calls
set_option Elab.async false
set_option maxRecDepth 100000
set_option linter.unusedVariables false
namespace Mine
open PySem (Sem Str Value Heap Obj Shared)
noncomputable def nthS : List Stmt → Nat → Stmt
  | [], _ => .Pass default
  | x :: _, 0 => x
  | _ :: l, n + 1 => nthS l n
noncomputable def clsBody : Stmt → List Stmt
  | .ClassDef (body := b) .. => b
  | .While _ b _ _ => b
  | .For _ _ b _ _ => b
  | _ => []
noncomputable def fnOfS : Stmt → FnT
  | .FunctionDef (name := n) (args := a) (body := b) (scope := sc) .. => ⟨n, a, b, sc⟩
  | _ => ⟨"", default, [], default⟩
noncomputable def topS (n : Nat) : Stmt := nthS PySem.Challenge.pw_jp0055_01.main.body n
noncomputable def topF (n : Nat) : FnT := fnOfS (topS n)
noncomputable def clsF (c n : Nat) : FnT := fnOfS (nthS (clsBody (topS c)) n)
end Mine
end
section
open PySem
set_option Elab.async false
set_option genSizeOf false
set_option genInjectivity false
namespace Mine
open PySem (Sem Str Value Heap Obj Shared)
structure Wo where
  live : Nat → Prop
  x : Nat → Addr
  key : Nat → Int
  bs : Nat → List Nat
  rk : Nat → Nat
structure Wo.Ok (W : Wo) : Prop where
  cl : ∀ i, W.live i → ∀ j, j ∈ W.bs i → W.live j ∧ W.rk j < W.rk i
  inj : ∀ i j, W.live i → W.live j → W.x i = W.x j → i = j
  kinj : ∀ i j, W.live i → W.live j → W.key i = W.key j → i = j
  rk6 : ∀ i, W.live i → W.rk i < 6
  six : ∀ i, W.live i → i < 6
  len : ∀ i, W.live i → (W.bs i).length ≤ 5
  nd : ∀ i, W.live i → (W.bs i).Nodup
noncomputable def walkN (bs : Nat → List Nat) : Nat → Nat → List Nat
  | 0, _ => []
  | n + 1, i => i :: (bs i).flatMap (walkN bs n)
noncomputable def Wo.walk (W : Wo) (i : Nat) : List Nat := walkN W.bs (W.rk i + 1) i
theorem flatMap_congr' {α β : Type} {l : List α} {f g : α → List β} (h : ∀ x, x ∈ l → f x = g x) : l.flatMap f = l.flatMap g := by
  induction l with
  | nil => rfl
  | cons a l ih => rw [List.flatMap_cons, List.flatMap_cons, h a (.head _), ih fun x hx => h x (.tail _ hx)]
theorem walkN_eq {W : Wo} (O : W.Ok) : ∀ (n i : Nat), W.live i → W.rk i < n → walkN W.bs n i = W.walk i
  | n + 1, i, hl, hn => by
    have : ∀ k, W.rk i ≤ k → walkN W.bs (k + 1) i = i :: (W.bs i).flatMap W.walk := by
      intro k hk
      show i :: (W.bs i).flatMap (walkN W.bs k) = _
      rw [flatMap_congr' fun j hj => ?_]
      have c := O.cl i hl j hj
      have : W.rk j < n + 1 := by omega
      by_cases q : k < n + 1
      · cases k with
        | zero => exact absurd c.2 (by omega)
        | succ k =>
          exact walkN_eq O (k + 1) j c.1 (by omega)
      · have h1 : ∀ m, W.rk j < m → walkN W.bs m j = W.walk j := fun m hm => by
          have := Nat.lt_of_lt_of_le c.2 (Nat.le_of_lt_succ hn)
          exact walkN_aux O (W.rk j) m j c.1 (Nat.le_refl _) hm
        exact h1 k (by omega)
    show walkN W.bs (n + 1) i = walkN W.bs (W.rk i + 1) i
    rw [this n (by omega), this (W.rk i) (Nat.le_refl _)]
where
  walkN_aux {W : Wo} (O : W.Ok) : ∀ (r m j : Nat), W.live j → W.rk j ≤ r → W.rk j < m → walkN W.bs m j = W.walk j
    | r, 0, j, _, _, h => by omega
    | r, m + 1, j, hl, hr, hm => by
      show j :: (W.bs j).flatMap (walkN W.bs m) = j :: (W.bs j).flatMap (walkN W.bs (W.rk j))
      rw [flatMap_congr' fun k hk => ?_]
      have c := O.cl j hl k hk
      cases r with
      | zero => omega
      | succ r =>
        rw [walkN_aux O r m k c.1 (by omega) (by omega), walkN_aux O r (W.rk j) k c.1 (by omega) (by omega)]
theorem walk_eq {W : Wo} (O : W.Ok) {i : Nat} (hl : W.live i) : W.walk i = i :: (W.bs i).flatMap W.walk := by
  show i :: (W.bs i).flatMap (walkN W.bs (W.rk i)) = _
  rw [flatMap_congr' fun j hj => ?_]
  exact walkN_eq O _ j (O.cl i hl j hj).1 (O.cl i hl j hj).2
theorem walkN_len {W : Wo} (O : W.Ok) : ∀ (n i : Nat), W.live i → (walkN W.bs n i).length ≤ 6 ^ n
  | 0, _, _ => by simp [walkN]
  | n + 1, i, hl => by
    have h : ∀ l : List Nat, (∀ j, j ∈ l → W.live j) → (l.flatMap (walkN W.bs n)).length ≤ l.length * 6 ^ n := by
      intro l
      induction l with
      | nil => intro _; simp
      | cons a l ih =>
        intro hl
        rw [List.flatMap_cons, List.length_append, List.length_cons, Nat.add_mul, Nat.one_mul]
        have := walkN_len O n a (hl a (.head _))
        have := ih fun j hj => hl j (.tail _ hj)
        omega
    have h1 := h (W.bs i) fun j hj => (O.cl i hl j hj).1
    have h2 := O.len i hl
    have h3 : (W.bs i).length * 6 ^ n ≤ 5 * 6 ^ n := Nat.mul_le_mul_right _ h2
    have h4 : 1 ≤ 6 ^ n := Nat.one_le_pow _ _ (by decide)
    show (i :: (W.bs i).flatMap (walkN W.bs n)).length ≤ _
    rw [List.length_cons, Nat.pow_succ]
    omega
theorem walk_len {W : Wo} (O : W.Ok) {i : Nat} (hl : W.live i) : (W.walk i).length ≤ 46656 := by
  have h := walkN_len O (W.rk i + 1) i hl
  have := O.rk6 i hl
  exact Nat.le_trans h (Nat.pow_le_pow_right (by decide) (show W.rk i + 1 ≤ 6 by (with_reducible exact Nat.succ_le_of_lt ‹_›)))
noncomputable def Wo.refs (W : Wo) (l : List Nat) : List Value := l.map fun j => .ref (W.x j)
noncomputable def Nodes (ρ : Wd) (IC : Addr) (W : Wo) : Prop := ∀ i, W.live i → ∃ dx z m tk tb, ρ (W.x i) = some (.ins IC dx) ∧ ρ dx = some (.nsd z m) ∧ m "key" = some (.int (W.key i) tk) ∧
  m "bases" = some (.ref tb) ∧ ρ tb = some (.tup (W.refs (W.bs i)))
theorem Nodes.el {ρ : Wd} {IC : Addr} {W : Wo} (N : Nodes ρ IC W) {i : Nat} (hi : W.live i) {G : Prop} (k : ∀ dx z m tk tb, ρ (W.x i) = some (.ins IC dx) → ρ dx = some (.nsd z m) → m "key" = some (.int (W.key i) tk) → m "bases" = some (.ref tb) → ρ tb = some (.tup (W.refs (W.bs i))) → G) : G :=
  (N i hi).elim fun dx h => h.elim fun z h => h.elim fun m h => h.elim fun tk h => h.elim fun tb h => k dx z m tk tb h.1 h.2.1 h.2.2.1 h.2.2.2.1 h.2.2.2.2
theorem Nodes.ext {ρ ρ' : Wd} {IC : Addr} {W : Wo} (N : Nodes ρ IC W) (e : Ext ρ ρ') : Nodes ρ' IC W := fun i hi =>
  let ⟨dx, z, m, tk, tb, a, b, c, d, f⟩ := N i hi; ⟨dx, z, m, tk, tb, e _ _ a, e _ _ b, c, d, e _ _ f⟩
noncomputable def keepLast (l : List Nat) : List Nat := l.foldr (fun a acc => if a ∈ acc then acc else a :: acc) []
theorem keepLast_cons (a : Nat) (l : List Nat) : keepLast (a :: l) = if a ∈ keepLast l then keepLast l else a :: keepLast l := rfl
theorem mem_keepLast {l : List Nat} {a : Nat} : a ∈ keepLast l ↔ a ∈ l := by
  induction l with
  | nil => simp [keepLast]
  | cons b l ih =>
    rw [keepLast_cons]
    split
    · rename_i h
      rw [List.mem_cons]
      refine ⟨fun x => .inr (ih.mp x), fun x => x.elim (fun e => by rw [e]; exact h) fun y => ih.mpr y⟩
    · rw [List.mem_cons, List.mem_cons, ih]
theorem nodup_keepLast (l : List Nat) : (keepLast l).Nodup := by
  induction l with
  | nil => simp [keepLast]
  | cons b l ih =>
    rw [keepLast_cons]
    split
    · exact ih
    · rename_i h; exact List.nodup_cons.mpr ⟨h, ih⟩
theorem nodup_lt : ∀ (n : Nat) (l : List Nat), l.Nodup → (∀ x, x ∈ l → x < n) → l.length ≤ n
  | 0, [], _, _ => Nat.le_refl _
  | 0, a :: l, _, h => absurd (h a (.head _)) (Nat.not_lt_zero _)
  | n + 1, l, hn, h => by
    have h1 := nodup_lt n (l.erase n) (hn.erase n) fun x hx => by
      have h2 := h x (List.mem_of_mem_erase hx)
      have h3 : x ≠ n := fun e => by subst e; exact (List.Nodup.not_mem_erase hn) hx
      omega
    have h4 : l.length ≤ (l.erase n).length + 1 := by
      by_cases q : n ∈ l
      · rw [List.length_erase_of_mem q]; omega
      · rw [List.erase_of_not_mem q]; (with_reducible exact Nat.le_add_right _ _)
    omega
theorem walk_live {W : Wo} (O : W.Ok) : ∀ (n i : Nat), W.live i → W.rk i < n → ∀ j, j ∈ W.walk i → W.live j
  | n + 1, i, hl, hn, j, hj => by
    rw [walk_eq O hl] at hj
    rcases List.mem_cons.mp hj with rfl | hj
    · exact hl
    · obtain ⟨k, hk, hj⟩ := List.mem_flatMap.mp hj
      have c := O.cl i hl k hk
      exact walk_live O n k c.1 (by omega) j hj
end Mine
end
section
open PySem PySem.W PyProof.Rows PySem.Calls
set_option Elab.async false
set_option genSizeOf false
set_option genInjectivity false
set_option maxRecDepth 100000
set_option linter.unusedVariables false
namespace Mine
open PySem (Sem Str Value Heap Obj Shared)
set_option genInjectivity false in
set_option genSizeOf false in
structure Adr where
  merg : Addr
  flat : Addr
  leg : Addr
  inc : Addr
  incInit : Addr
  stat : Addr
  statInit : Addr
  statMro : Addr
  use : Addr
  c3 : Addr
  sc3 : Addr
  resolver : Addr
  c3Init : Addr
  c3Same : Addr
  scSame : Addr
  hadInc : Addr
  legRo : Addr
  canChoose : Addr
  nonEmpty : Addr
  chooseNext : Addr
  findNext : Addr
  c3Guess : Addr
  scGuess : Addr
  mergeF : Addr
  mroF : Addr
  ro : Addr
  roDef : Addr
  sp : Addr
  spInit : Addr
  depends : Addr
  subscribe : Addr
  unsubscribe : Addr
  setBases : Addr
  calcSro : Addr
  changed : Addr
  ic : Addr
  icInit : Addr
  icDef : Addr
  spDef : Addr
  lMerge : Addr
  lWalk : Addr
  lOrders : Addr
  lNumbers : Addr
  lPlain : Addr
  lLooks : Addr
  lTurn : Addr
  law : Addr
noncomputable def Adr.kind (a : Adr) (b : Bool) : Addr := if b then a.sc3 else a.c3
noncomputable def Adr.globs (a : Adr) : List (Str × Value) :=
  [("_legacy_mergeOrderings", .ref a.merg), ("_legacy_flatten", .ref a.flat), ("_legacy_ro", .ref a.leg), ("InconsistentResolutionOrderError", .ref a.inc), ("_StaticMRO", .ref a.stat),
   ("_UseLegacyRO", .ref a.use), ("C3", .ref a.c3), ("_StrictC3", .ref a.sc3), ("ro", .ref a.ro), ("Specification", .ref a.sp), ("InterfaceClass", .ref a.ic),
   ("_law_merge", .ref a.lMerge), ("_law_walk", .ref a.lWalk), ("_law_orders", .ref a.lOrders), ("_law_numbers", .ref a.lNumbers), ("_law_plain", .ref a.lPlain), ("_law_looks", .ref a.lLooks), ("_law_turn", .ref a.lTurn), ("law", .ref a.law)]
noncomputable def Adr.kindMeths (a : Adr) (b : Bool) : List (Str × Addr) :=
  [("_same_kind", if b then a.scSame else a.c3Same), ("_choose_next_base", a.chooseNext), ("_find_next_C3_base", a.findNext), ("_guess_next_base", if b then a.scGuess else a.c3Guess), ("_merge", a.mergeF), ("mro", a.mroF)]
noncomputable def Adr.icMeths (a : Adr) : List (Str × Addr) :=
  [("subscribe", a.subscribe), ("unsubscribe", a.unsubscribe), ("setBases", a.setBases), ("_calculate_sro", a.calcSro), ("changed", a.changed)]
noncomputable def noGlobs : List Str := ["set", "reversed", "len", "tuple", "list", "any", "filter", "isinstance", "all", "TypeError", "range"]
structure Text (C : Cx) (a : Adr) : Prop where
  glob : ∀ x v, a.globs.lookup x = some v → nsIn C.K mainGlobals x = some (some v)
  nog : ∀ x, noGlobs.contains x = true → nsIn C.K mainGlobals x = some none
  fMerg : FnAt C.K a.merg "_legacy_mergeOrderings" (topF 2) .none
  fFlat : FnAt C.K a.flat "_legacy_flatten" (topF 3) .none
  fLeg : FnAt C.K a.leg "_legacy_ro" (topF 4) .none
  fStatInit : FnAt C.K a.statInit "_StaticMRO.__init__" (clsF 6 1) .none
  fStatMro : FnAt C.K a.statMro "_StaticMRO.mro" (clsF 6 2) .none
  fC3Init : FnAt C.K a.c3Init "C3.__init__" (clsF 8 4) .none
  fC3Same : FnAt C.K a.c3Same "C3._same_kind" (clsF 8 5) .none
  fHadInc : FnAt C.K a.hadInc "C3.had_inconsistency" (clsF 8 6) .none
  fLegRo : FnAt C.K a.legRo "C3.legacy_ro" (clsF 8 7) .none
  fCanChoose : FnAt C.K a.canChoose "C3._can_choose_base" (clsF 8 8) .none
  fNonEmpty : FnAt C.K a.nonEmpty "C3._nonempty_bases_ignoring" (clsF 8 9) .none
  fChooseNext : FnAt C.K a.chooseNext "C3._choose_next_base" (clsF 8 10) .none
  fFindNext : FnAt C.K a.findNext "C3._find_next_C3_base" (clsF 8 11) .none
  fC3Guess : FnAt C.K a.c3Guess "C3._guess_next_base" (clsF 8 12) .none
  fMergeF : FnAt C.K a.mergeF "C3._merge" (clsF 8 13) .none
  fMroF : FnAt C.K a.mroF "C3.mro" (clsF 8 14) .none
  fScSame : FnAt C.K a.scSame "_StrictC3._same_kind" (clsF 9 0) .none
  fScGuess : FnAt C.K a.scGuess "_StrictC3._guess_next_base" (clsF 9 1) .none
  statOwn : ∀ x, (["_mro", "leaf"] : List Str).contains x = true → OwnA C.K a.stat x
  statSet : ∀ x, (["_mro", "leaf"] : List Str).contains x = true → SetA C.K a.stat x
  statHad : ClsA C.K a.stat "had_inconsistency" .none
  statM : MethA C.K a.stat "mro" a.statMro
  mkStat : MkA C.K a.stat a.statInit
  kOwn : ∀ b x, (["_mro", "leaf", "memo", "base_tree", "bases_had_inconsistency", "_own_legacy", "direct_inconsistency"] : List Str).contains x = true → OwnA C.K (a.kind b) x
  kSet : ∀ b x, (["_mro", "leaf", "memo", "base_tree", "bases_had_inconsistency", "_own_legacy", "direct_inconsistency"] : List Str).contains x = true → SetA C.K (a.kind b) x
  kNone : ∀ b x, (["_mro", "_own_legacy"] : List Str).contains x = true → ClsA C.K (a.kind b) x .none
  kFalse : ∀ b, ClsA C.K (a.kind b) "direct_inconsistency" (.bool false)
  kMeth : ∀ b x f, (a.kindMeths b).lookup x = some f → MethA C.K (a.kind b) x f
  kHad : ∀ b, PropA C.K (a.kind b) "had_inconsistency" a.hadInc
  kLeg : ∀ b, PropA C.K (a.kind b) "legacy_ro" a.legRo
  kCan : ∀ b, StatA C.K (a.kind b) "_can_choose_base" a.canChoose
  kNon : ∀ b, StatA C.K (a.kind b) "_nonempty_bases_ignoring" a.nonEmpty
  mkKind : ∀ b, MkA C.K (a.kind b) a.c3Init
  kKeep : ∀ b, keepIn C.K (.ref (a.kind b)) = true
  statKeep : keepIn C.K (.ref a.stat) = true
  icOwn : ∀ x, (["bases", "key", "sro", "iro", "_ROOT", "_dependents", "_implied"] : List Str).contains x = true → OwnA C.K a.ic x
  icSet : ∀ x, (["bases", "key", "sro", "iro", "_ROOT", "_dependents", "_implied"] : List Str).contains x = true → SetA C.K a.ic x
  icMeth : ∀ x f, a.icMeths.lookup x = some f → MethA C.K a.ic x f
  icDep : PropA C.K a.ic "dependents" a.depends
  icKeep : keepIn C.K (.ref a.ic) = true
  fIncInit : FnAt C.K a.incInit "InconsistentResolutionOrderError.__init__" (clsF 5 0) .none
  incI : findIn C.K (.ref a.inc) "__init__" = some (some (.ref a.incInit))
  incT : typeIn C.K (.ref a.incInit) = some (.type "function")
  incX : ExcCls C a.inc "TypeError.__new__" [.type "TypeError", .type "Exception", .type "BaseException", .type "object"] ["__setattr__", "C", "base_tree_remaining"]
  incKeep : keepIn C.K (.ref a.inc) = true
  useX : ExcCls C a.use "Exception.__new__" [.type "Exception", .type "BaseException", .type "object"] ["__init__"]
theorem FnAt.keep {K : Frag} {f : Addr} {qual : Str} {F : FnT} {dV : Value} (h : FnAt K f qual F dV) : keepIn K (.ref f) = true := by
  obtain ⟨⟨_, _, _, _⟩, _, _, _, _, _, _, e, d, _⟩ := h
  dsimp only at d
  subst d
  unfold keepIn
  dsimp only
  rw [e]
noncomputable def Rm (A : Around) (n : Nat) : Prop := A.depth + 4 * n + 4 < 1000 ∧ A.units + 40 * n + 40 < 9900
theorem Rm.d {A : Around} {n : Nat} (r : Rm A n) : A.depth < 1000 := by have := r.1; omega
theorem Rm.le {A : Around} {m n : Nat} (r : Rm A n) (h : m ≤ n) : Rm A m := ⟨by have := r.1; omega, by have := r.2; omega⟩
theorem Rm.deeper {A : Around} {n : Nat} (r : Rm A (n + 1)) (env : Env) : Rm (A.deeper env) n := by
  have h1 : (A.deeper env).depth ≤ A.depth + 4 := by show A.depth + 1 ≤ _; ((with_reducible refine oz11 ?_); exact rfl)
  have h2 : (A.deeper env).units ≤ A.units + 30 := by show A.units + 3 ≤ _; ((with_reducible refine oz11 ?_); exact rfl)
  exact ⟨by have := r.1; omega, by have := r.2; omega⟩
theorem Rm.in1 {A : Around} {n : Nat} (r : Rm A (n + 1)) : Rm A.in1 n := by
  have h1 : A.in1.depth ≤ A.depth + 4 := by show A.depth ≤ _; (with_reducible exact Nat.le_add_right _ _)
  have h2 : A.in1.units ≤ A.units + 30 := by show A.units + 1 ≤ _; ((with_reducible refine oz11 ?_); exact rfl)
  exact ⟨by have := r.1; omega, by have := r.2; omega⟩
theorem Hd.deeper {A : Around} {ρ : Wd} (x : Hd A ρ) (env : Env) : Hd (A.deeper env) ρ := x
theorem under_mk (A : Around) (Cl : Addr) (rest : List Value) (kw : List (Str × Value)) : A.under (.builtin "type.__call__" ⟨.ref Cl :: rest, kw⟩) = { A with depth := A.depth + 1, units := A.units + 1 } := by
  obtain ⟨hd, d, fr, gs, u⟩ := A
  cases fr <;> cases gs <;> kernel_rfl
theorem Rm.mk {A : Around} {n : Nat} (r : Rm A (n + 1)) (Cl : Addr) (rest : List Value) (kw : List (Str × Value)) : Rm (A.under (.builtin "type.__call__" ⟨.ref Cl :: rest, kw⟩)) n := by
  rw [under_mk]
  exact ⟨by have := r.1; show A.depth + 1 + 4 * n + 4 < 1000; omega, by have := r.2; show A.units + 1 + 40 * n + 40 < 9900; omega⟩
end Mine
end
section
open PySem PySem.W PyProof.Rows PySem.Calls
set_option Elab.async false
set_option maxRecDepth 100000
set_option linter.unusedVariables false
namespace Mine
open PySem (Sem Str Value Heap Obj Shared)
section
variable {C : Cx} {a : Adr} {ρ : Wd} {τ σ : Lc} {s : Shared} {A : Around} {R : Result → Shared → Prop}
theorem statMro_ok (T : Text C a) (S : St C ρ τ σ s) {x dx t : Addr} {z m xs} (e1 : ρ x = some (.ins a.stat dx)) (e2 : ρ dx = some (.nsd z m)) (e3 : m "_mro" = some (.ref t)) (e4 : ρ t = some (.tup xs)) (hz : xs.length ≤ Big) (r : Rm A 1)
    (h : ∀ l s', St C ρ τ (σ ++ [(l, .list xs)]) s' → R (.ok (.ret (.ref l))) s') : codeAny C.M A (.call (.ref a.statMro) ⟨[.ref x], []⟩) R s := by
  refine enter S T.fStatMro r.d (binds := [("self", .ref x)]) (fun _ _ _ _ _ _ => BindsTo.of_eq rfl) fun L cdv s' S => ?_
  refine xcons (wpAny_Return_some (Call_ (ldB S (T.nog _ rfl) rfl (cwT ?_))))
  refine xAttr (ldL S rfl rfl ?_)
  refine gOwn S e1 e2 (T.statOwn _ rfl) e3 fun s' S => ?_
  exact bListT S (S.o e4) hz fun l s' S => h l s' (St.back (S.sub (List.Sublist.cons _ (.refl _))))
theorem flatten_ok (T : Text C a) {W : Wo} (O : W.Ok) (N : Nodes ρ a.ic W) {i : Nat} (hi : W.live i) (S : St C ρ τ σ s) (r : Rm A 1)
    (h : ∀ l s', St C ρ τ (σ ++ [(l, .list (W.refs (W.walk i)))]) s' → R (.ok (.ret (.ref l))) s') : codeAny C.M A (.call (.ref a.flat) ⟨[.ref (W.x i)], []⟩) R s := by
  refine enter S T.fFlat r.d (binds := [("begin", .ref (W.x i))]) (fun _ _ _ _ _ _ => BindsTo.of_eq rfl) fun L cdv s' S => ?_
  refine xcons (xAsg (eList (ldL S rfl rfl ⟨_, _, _, S, by show 1 ≤ 100000; decide, fun l s' S => ?_⟩)))
  refine stL S rfl fun s' S => ?_
  refine xcons (xAsg (cInt S fun t s' S => stL S rfl fun s' S => ?_))
  refine xcons (wpAny_While ?_)
  refine while_st (α := (Str → Option Value) × List Nat × List Nat) (E' := fun _ _ => False) (fun _ => ρ) (fun x => [(L, .fr "frame" x.1), (l, .list (W.refs (x.2.1 ++ x.2.2)))])
    (fun x => x.1 "result" = some (.ref l) ∧ (∃ t, x.1 "i" = some (.int x.2.1.length t)) ∧ (∀ j, j ∈ x.2.2 → W.live j) ∧ x.2.1 ++ x.2.2.flatMap W.walk = W.walk i)
    (fun x => (x.2.2.flatMap W.walk).length) noE (_, [], [i]) S ⟨rfl, ⟨t, rfl⟩, fun j hj => by rw [List.mem_singleton.mp hj]; exact hi, by simp⟩ ?_
  rintro ⟨m, done, todo⟩ s ⟨m1, ⟨t, m2⟩, hl, hw⟩ S
  dsimp only at m1 m2 hl hw
  have wl := walk_len O hi
  have hz : (done ++ todo).length ≤ 46656 := by
    have : ∀ l : List Nat, (∀ j, j ∈ l → W.live j) → l.length ≤ (l.flatMap W.walk).length := by
      intro l
      induction l with
      | nil => intro _; exact Nat.zero_le _
      | cons b l ih =>
        intro hl
        rw [List.flatMap_cons, List.length_append, List.length_cons, walk_eq O (hl b (.head _)), List.length_cons]
        have := ih fun j hj => hl j (.tail _ hj)
        omega
    have h1 := this todo hl
    rw [← hw, List.length_append] at wl
    rw [List.length_append]; omega
  have hzr : (W.refs (done ++ todo)).length ≤ Big := by rw [Wo.refs, List.length_map]; exact Nat.le_trans hz (by decide)
  refine xCmp (ldL S rfl m2 (Call_ (ldB S (T.nog _ rfl) rfl (cwB (ldL S rfl m1 ?_)))))
  refine xLen S (S.at 1 rfl) hzr fun t2 s' S => wpAny_lt_int (wpAny_truthy_bool ?_)
  have e1 : (W.refs (done ++ todo)).length = done.length + todo.length := by rw [Wo.refs, List.length_map, List.length_append]
  cases todo with
  | nil =>
    have : decide ((done.length : Int) < ((W.refs (done ++ [])).length : Int)) = false := decide_eq_false (by rw [e1]; simp)
    rw [this]
    refine wpAny_execs_nil ?_
    refine xcons (wpAny_Return_some (ldL S rfl m1 ?_))
    rw [List.append_nil] at S
    rw [List.flatMap_nil, List.append_nil] at hw
    rw [hw] at S
    exact h l s' (St.back (S.sub (List.Sublist.cons _ (.refl _))))
  | cons j todo =>
    have : decide ((done.length : Int) < ((W.refs (done ++ j :: todo)).length : Int)) = true := decide_eq_true (by rw [e1, List.length_cons]; omega)
    rw [this]
    have hj := hl j (.head _)
    refine Nodes.el N hj fun dx z mx tk tb n1 n2 n3 n4 n5 => ?_
    have hd : done.length ≤ 46656 := by rw [List.length_append] at hz; ((with_reducible refine oz3 ‹_› ?_); exact rfl)
    refine gen fun Q1 hQ1 => ?_
    refine xcons (xAsg (xSub (ldL S rfl m1 (ldL S rfl m2 (sIdx (v := .ref (W.x j)) (S.at 1 rfl) ?_ (by (with_reducible exact Int.natCast_nonneg _)) (by ((with_reducible refine oz5 ‹_› ?_); exact rfl)) (stL S rfl fun s' S => ?_))))))
    · rw [Int.toNat_natCast, Wo.refs, List.getElem?_map, List.getElem?_append_right (Nat.le_refl _)]; simp
    refine xcons (wpAny_AugAssign_Name (lnL S rfl m2 (cInt S fun t3 s' S => oIadd S fun t4 s' S => stL S rfl fun s' S => ?_)))
    refine xcons (wpAny_Assign_Subscript (xAttr (ldL S rfl rfl (gOwn S n1 n2 (T.icOwn _ rfl) n4 fun s' S => ?_))))
    refine ldL S rfl m1 ?_
    refine wpAny_Slice (ldL S rfl rfl (ldL S rfl rfl (wpAny_pure ?_)))
    have hlen := O.len j hj
    refine bSplice (i := done.length + 1) (S.grow (pushG _ _)) 1 rfl (Heap.IsSliceOf.new ..) ((S.grow (pushG _ _)).o n5) (by rw [e1, List.length_cons]; ((with_reducible refine oz11 ?_); exact rfl)) ?_ fun s' S => ?_
    · rw [Wo.refs, Wo.refs, List.length_map, List.length_map]; exact Nat.le_trans (Nat.add_le_add hz hlen) (by decide)
    have e2 : (W.refs (done ++ j :: todo)).take (done.length + 1) ++ W.refs (W.bs j) ++ (W.refs (done ++ j :: todo)).drop (done.length + 1) = W.refs ((done ++ [j]) ++ (W.bs j ++ todo)) := by
      have h1 : done ++ j :: todo = (done ++ [j]) ++ todo := by simp
      have h2 : (W.refs (done ++ [j])).length = done.length + 1 := by simp [Wo.refs]
      rw [h1, show W.refs ((done ++ [j]) ++ todo) = W.refs (done ++ [j]) ++ W.refs todo from List.map_append .., ← h2, List.take_left, List.drop_left]
      simp [Wo.refs]
    rw [e2] at S
    refine wpAny_execs_nil (hQ1 _ _ ⟨(_, done ++ [j], W.bs j ++ todo), ?_, ⟨?_, ⟨t4, ?_⟩, fun k hk => ?_, ?_⟩, S⟩)
    · show ((W.bs j ++ todo).flatMap W.walk).length < ((j :: todo).flatMap W.walk).length
      rw [List.flatMap_cons, walk_eq O hj, List.flatMap_append, List.length_append, List.length_append, List.length_cons]; omega
    · exact m1
    · show some (Value.int ((done.length : Int) + 1) t4) = some (.int (done ++ [j]).length t4)
      rw [List.length_append]; rfl
    · rcases List.mem_append.mp hk with hk | hk
      · exact (O.cl j hj k hk).1
      · exact hl k (.tail _ hk)
    · show done ++ [j] ++ (W.bs j ++ todo).flatMap W.walk = _
      rw [← hw, List.flatMap_cons, walk_eq O hj, List.flatMap_append]; simp
theorem merge_ok (T : Text C a) {W : Wo} (O : W.Ok) (N : Nodes ρ a.ic W) {xs : List Nat} (hx : ∀ i, i ∈ xs → W.live i) {l1 l0 : Addr} (h1 : ρ l1 = some (.list [.ref l0])) (h0 : ρ l0 = some (.list (W.refs xs)))
    (S : St C ρ τ σ s) (r : Rm A 1) (hh : Hd A ρ) (h : ∀ l s', St C ρ τ (σ ++ [(l, .list (W.refs (keepLast xs)))]) s' → R (.ok (.ret (.ref l))) s') :
    codeAny C.M A (.call (.ref a.merg) ⟨[.ref l1], []⟩) R s := by
  refine enter S T.fMerg r.d (binds := [("orderings", .ref l1)]) (fun _ _ _ _ _ _ => BindsTo.of_eq rfl) fun L cdv s' S => ?_
  refine xcons (xAsg (Call_ (ldB S (T.nog _ rfl) rfl (cwT (xSet0 S fun as s' S => stL S rfl fun s' S => ?_)))))
  refine xcons (xAsg (eList ⟨_, _, _, S, Nat.zero_le _, fun lr s' S => stL S rfl fun s' S => ?_⟩))
  refine xcons (xFor (Call_ (ldB S (T.nog _ rfl) rfl (cwT (ldL S rfl rfl ?_)))))
  refine xRev S (S.o h1) fun I s' S hl => (Wk.revH I l1 _).self 0 _ _ _ (S.ta 0 rfl) ?_
  have hd : ∀ {τ σ s}, St C ρ τ σ s → s.heap.PlainList l1 [Value.ref l0].toArray ∧ HdH (A.deeper (envX "_legacy_mergeOrderings" (topF 2).scope L a.merg cdv (cellsFrom (L + 1) (topF 2).scope.names []))) s.heap := fun S => ⟨S.o h1, hh.h S⟩
  have hd0 : ∀ {τ σ s}, St C ρ τ σ s → s.heap.PlainList l0 (W.refs xs).toArray ∧ HdH (A.deeper (envX "_legacy_mergeOrderings" (topF 2).scope L a.merg cdv (cellsFrom (L + 1) (topF 2).scope.names []))) s.heap := fun S => ⟨S.o h0, hh.h S⟩
  refine forLoop_t (α := (Str → Option Value) × (Int → Bool) × List Nat) (E' := fun _ _ => False) (Wk.revH I l1 _) (fun _ => ρ) (fun x => [(L, .fr "frame" x.1), (as, .iset x.2.1 x.2.2.length), (lr, .list (W.refs x.2.2))])
    (fun i x => x.1 "seen" = some (.ref as) ∧ x.1 "result" = some (.ref lr) ∧ (∀ j, W.live j → x.2.1 (W.key j) = decide (j ∈ x.2.2)) ∧ x.2.2 = if i = 0 then [] else keepLast xs) noE (fun i x a s _ S => hd S)
    (_, fun _ => false, []) S ⟨rfl, rfl, fun j _ => by simp, rfl⟩ ?_ ?_
  · rintro i Q1 Eb hQ1 hEb hRb ⟨m, P, acc⟩ v s hv ⟨m1, m2, m3, m4⟩ S
    have hi : i = 0 := by
      cases i with
      | zero => rfl
      | succ i => simp at hv
    subst hi
    have ev : v = .ref l0 := by simpa using hv.symm
    subst ev
    dsimp only at m1 m2 m3 m4 S
    rw [if_pos rfl] at m4
    subst m4
    refine wpAny_of_eq (a := ()) rfl (wpAny_assign_Name (stL S rfl fun s' S => ?_))
    refine xcons (xFor (Call_ (ldB S (T.nog _ rfl) rfl (cwT (ldL S rfl rfl ?_)))))
    refine xRev S (S.o h0) fun I2 s' S hl => (Wk.revH I2 l0 _).self 0 _ _ _ (S.ta 0 rfl) ?_
    refine forLoop_t (α := (Str → Option Value) × (Int → Bool) × List Nat) (E' := fun _ _ => False) (Wk.revH I2 l0 _) (fun _ => ρ) (fun x => [(L, .fr "frame" x.1), (as, .iset x.2.1 x.2.2.length), (lr, .list (W.refs x.2.2))])
      (fun i x => x.1 "seen" = some (.ref as) ∧ x.1 "result" = some (.ref lr) ∧ (∀ j, W.live j → x.2.1 (W.key j) = decide (j ∈ x.2.2)) ∧ x.2.2 = keepLast (xs.drop (xs.length - i))) noE (fun i x a s _ S => hd0 S)
      (_, P, []) S ⟨m1, m2, m3, by simp [keepLast]⟩ ?_ ?_
    · rintro i Q2 Eb hQ2 hEb hRb ⟨m, P, acc⟩ v s hv ⟨m1, m2, m3, m4⟩ S
      dsimp only at m1 m2 m3 m4 S
      have hi : i < xs.length := by
        have := (List.getElem?_eq_some_iff.mp hv).1
        simpa [Wo.refs] using this
      have hk : xs.length - (i + 1) < xs.length := by (with_reducible exact oz8 ‹_›)
      have hv' : v = .ref (W.x xs[xs.length - (i + 1)]) := by
        rw [List.getElem?_reverse (by simpa [Wo.refs] using hi)] at hv
        simp only [Wo.refs, List.length_map, List.getElem?_map] at hv
        rw [show xs.length - 1 - i = xs.length - (i + 1) by omega, List.getElem?_eq_getElem hk] at hv
        simpa using hv.symm
      generalize hj : xs[xs.length - (i + 1)] = j at hv'
      subst hv'
      have hlj : W.live j := hx j (hj ▸ List.getElem_mem _)
      have hdr : xs.drop (xs.length - (i + 1)) = j :: xs.drop (xs.length - i) := by
        rw [List.drop_eq_getElem_cons hk, hj, show xs.length - (i + 1) + 1 = xs.length - i by omega]
      refine Nodes.el N hlj fun dx z mx tk tb n1 n2 n3 n4 n5 => ?_
      refine wpAny_of_eq (a := ()) rfl (wpAny_assign_Name (stL S rfl fun s' S => ?_))
      refine xcons (wpAny_If (xCmp (xAttr (ldL S rfl rfl (gOwn S n1 n2 (T.icOwn _ rfl) n3 fun s' S => ldL S rfl m1 (oNotInSet S (S.at 1 rfl) fun s' S => wpAny_truthy_bool ?_))))))
      rw [m3 j hlj]
      have hn : acc.length ≤ 6 := by
        rw [m4]
        exact nodup_lt 6 _ (nodup_keepLast _) fun x hx' => O.six x (hx x (List.mem_of_mem_drop (mem_keepLast.mp hx')))
      by_cases hm : j ∈ acc
      · rw [decide_eq_true hm]
        refine wpAny_execs_nil (wpAny_execs_nil (hQ2 ((_, P, acc)) _ (?_) S))
        exact ⟨m1, m2, m3, by rw [hdr, keepLast_cons, ← m4, if_pos hm]⟩
      · rw [decide_eq_false hm]
        refine xcons (wpAny_Expr_any (xMeth (ldL S rfl m1 (gSetAdd (S.at 1 rfl) (cwB (xAttr (ldL S rfl rfl (gOwn S n1 n2 (T.icOwn _ rfl) n3 fun s' S => bSetAdd S 1 rfl (by omega) fun s' S => ?_))))))))
        refine xcons (wpAny_Expr_any (xMeth (ldL S rfl m2 (gInsert (S.at 2 rfl) (cwB (cInt S fun t s' S => ldL S rfl rfl (bInsert0 S 2 rfl (by rw [Wo.refs, List.length_map]; exact Nat.le_trans hn (by decide)) fun s' S => ?_)))))))
        have hp : P (W.key j) = false := by rw [m3 j hlj]; exact decide_eq_false hm
        rw [hp] at S
        refine wpAny_execs_nil (wpAny_execs_nil (hQ2 ((_, fun k' => P k' || decide (k' = W.key j), j :: acc)) _ (?_) S))
        refine ⟨m1, m2, ?_, ?_⟩
        · intro k hk'
          dsimp only
          rw [m3 k hk']
          by_cases e : k = j
          · subst e; simp
          · have : W.key k ≠ W.key j := fun q => e (O.kinj k j hk' hlj q)
            simp [this, e]
        · rw [hdr, keepLast_cons, ← m4, if_neg hm]
    · rintro ⟨m, P, acc⟩ s ⟨m1, m2, m3, m4⟩ S
      have e : acc = keepLast xs := by
        rw [List.length_reverse, Wo.refs, List.length_map, Nat.sub_self, List.drop_zero] at m4
        exact m4
      exact wpAny_execs_nil (wpAny_execs_nil (hQ1 ((m, P, acc)) _ ⟨m1, m2, m3, by rw [if_neg (by omega)]; exact e⟩ S))
  · rintro ⟨m, P, acc⟩ s ⟨m1, m2, m3, m4⟩ S
    have e : acc = keepLast xs := m4
    refine wpAny_execs_nil (xcons (wpAny_Return_some (ldL S rfl m2 ?_)))
    subst e
    exact h lr s (St.back (S.sub (List.Sublist.cons _ (List.Sublist.cons _ (.refl _)))))
end
end Mine
end
section
open PySem PySem.W PyProof.Rows PySem.Calls
set_option Elab.async false
set_option maxRecDepth 100000
set_option linter.unusedVariables false
namespace Mine
open PySem (Sem Str Value Heap Obj Shared)
section
variable {C : Cx} {a : Adr} {ρ : Wd} {τ σ : Lc} {s : Shared} {A : Around} {R : Result → Shared → Prop}
theorem legacy_ok (T : Text C a) {W : Wo} (O : W.Ok) (N : Nodes ρ a.ic W) {i : Nat} (hi : W.live i) (S : St C ρ τ σ s) (r : Rm A 2) (hh : Hd A ρ)
    (h : ∀ l s', St C ρ τ (σ ++ [(l, .list (W.refs (keepLast (W.walk i))))]) s' → R (.ok (.ret (.ref l))) s') : codeAny C.M A (.call (.ref a.leg) ⟨[.ref (W.x i)], []⟩) R s := by
  refine enter S T.fLeg r.d (binds := [("ob", .ref (W.x i))]) (fun _ _ _ _ _ _ => BindsTo.of_eq rfl) fun L cdv s' S => ?_
  refine xcons (wpAny_Return_some (Call_ (ldG S (T.glob _ _ rfl) (cwK T.fMerg.keep ?_))))
  refine eList (Call_ (ldG S (T.glob _ _ rfl) (cwK T.fFlat.keep (ldL S rfl rfl ⟨S.amb.x, callC (flatten_ok T O N hi S (r.deeper _) fun l0 s' S => ?_)⟩))))
  refine ⟨_, _, _, S, by show 1 ≤ 100000; decide, fun l1 s' S => ?_⟩
  have S1 := S.give 1 rfl
  have S2 := S1.give 1 rfl
  have e1 : Ext ρ (upd ρ l0 (.list (W.refs (W.walk i)))) := ext_upd _ (S.none_of_nth 1 rfl)
  have e2 := e1.trans (ext_upd (a := l1) (.list [Value.ref l0]) (S1.none_of_nth 1 rfl))
  refine ⟨S2.amb.x, callC (merge_ok T O (N.ext e2) (fun j hj => walk_live O _ i hi (Nat.lt_succ_self _) j hj) (l1 := l1) (l0 := l0) (upd_self ..) ?_ S2 (r.deeper _) (hh.ext e2) fun l s' S => ?_)⟩
  · exact ext_upd (a := l1) (.list [Value.ref l0]) (S1.none_of_nth 1 rfl) _ _ (upd_self ..)
  · exact h l s' (St.back ((S.mono e2).sub (List.Sublist.cons _ (.refl _))))
end
end Mine
end
section
open PySem PySem.W PyProof.Rows PySem.Calls
set_option Elab.async false
set_option maxRecDepth 100000
set_option linter.unusedVariables false
namespace Mine
open PySem (Sem Str Value Heap Obj Shared)
section
variable {C : Cx} {a : Adr} {ρ : Wd} {τ σ : Lc} {s : Shared} {A : Around} {R : Result → Shared → Prop}
theorem legProp_ok (T : Text C a) {W : Wo} (O : W.Ok) (N : Nodes ρ a.ic W) {i : Nat} (hi : W.live i) {b : Bool} {x dx : Addr} {z : Nat} {m : Mp} (e1 : ρ x = some (.ins (a.kind b) dx)) (e2 : ρ dx = some (.nsd z m)) (hz : z ≤ 1000)
    (hl : m "leaf" = some (.ref (W.x i))) (ho : m "_own_legacy" = none ∨ ∃ t, m "_own_legacy" = some (.ref t) ∧ ρ t = some (.tup (W.refs (keepLast (W.walk i)))))
    (S : St C ρ τ σ s) (r : Rm A 3) (hh : Hd A ρ)
    (h : ∀ l ρ' z' m' s', ExtB [dx] ρ ρ' → ρ' dx = some (.nsd z' m') → z' ≤ z + 1 → (∀ y : Str, y ≠ "_own_legacy" → m' y = m y) → (∃ t, m' "_own_legacy" = some (.ref t) ∧ ρ' t = some (.tup (W.refs (keepLast (W.walk i))))) →
      St C ρ' τ (σ ++ [(l, .list (W.refs (keepLast (W.walk i))))]) s' → R (.ok (.ret (.ref l))) s') :
    codeAny C.M A (.call (.ref a.legRo) ⟨[.ref x], []⟩) R s := by
  have hlen : (W.refs (keepLast (W.walk i))).length ≤ Big := by
    rw [Wo.refs, List.length_map]
    exact Nat.le_trans (nodup_lt 6 _ (nodup_keepLast _) fun j hj => O.six j (walk_live O _ i hi (Nat.lt_succ_self _) j (mem_keepLast.mp hj))) (by decide)
  refine enter S T.fLegRo r.d (binds := [("self", .ref x)]) (fun _ _ _ _ _ _ => BindsTo.of_eq rfl) fun L cdv s' S => ?_
  rcases ho with ho | ⟨t, ho, ht⟩
  · refine xcons (wpAny_If (xCmp (xAttr (ldL S rfl rfl (gCls S e1 e2 (T.kNone b _ rfl) ho fun s' S => cNone (wpAny_is_self rfl (wpAny_truthy_bool ?_)))))))
    refine xcons (plainObj_wpAny_Assign_Attribute (Call_ (ldB S (T.nog _ rfl) rfl (cwT (Call_ (ldG S (T.glob _ _ rfl) (cwK T.fLeg.keep ?_)))))))
    refine xAttr (ldL S rfl rfl (gOwn S e1 e2 (T.kOwn b _ rfl) hl fun s' S => ⟨S.amb.x, callC (legacy_ok T O N hi S (r.deeper _) hh fun l s' S => ?_)⟩))
    refine xTup S (S.at 1 rfl) hlen fun t s' S => ?_
    have S1 := S.give 2 rfl
    have n1 := S.none_of_nth 2 rfl
    have x1 : Ext ρ (upd ρ t (.tup (W.refs (keepLast (W.walk i))))) := ext_upd _ n1
    have ndx : t ≠ dx := fun q => by rw [q, e2] at n1; cases n1
    refine ldL S rfl rfl (sAttr S1 (x1 _ _ e1) (x1 _ _ e2) (T.kSet b _ rfl) hz fun s' S => ?_)
    have f2 : upd (upd ρ t (.tup (W.refs (keepLast (W.walk i))))) dx (.nsd (if (m "_own_legacy").isSome then z else z + 1) (m.put "_own_legacy" (.ref t))) t = some (.tup (W.refs (keepLast (W.walk i)))) := by
      rw [upd_ne _ _ ndx, upd_self]
    refine wpAny_execs_nil (xcons (wpAny_Return_some (Call_ (ldB S (T.nog _ rfl) rfl (cwT (xAttr (ldL S rfl rfl (gOwn S ?_ (upd_self ..) (T.kOwn b _ rfl) rfl fun s' S => bListT S (S.o f2) hlen fun l2 s' S => ?_))))))))
    · rw [upd_ne _ _ (fun q => by rw [q, e2] at e1; cases e1)]; exact x1 _ _ e1
    · refine h l2 _ _ _ s' ?_ (upd_self ..) ?_ (fun y hy => if_neg hy) ⟨t, if_pos rfl, f2⟩ (St.back (S.sub (List.Sublist.cons _ (List.Sublist.cons _ (.refl _)))))
      · exact (x1.b).trans (extB_upd _ _ _)
      · split <;> omega
  · refine xcons (wpAny_If (xCmp (xAttr (ldL S rfl rfl (gOwn S e1 e2 (T.kOwn b _ rfl) ho fun s' S => cNone (wpAny_is_other rfl (fun q => nomatch q) (wpAny_truthy_bool ?_)))))))
    refine wpAny_execs_nil (xcons (wpAny_Return_some (Call_ (ldB S (T.nog _ rfl) rfl (cwT (xAttr (ldL S rfl rfl (gOwn S e1 e2 (T.kOwn b _ rfl) ho fun s' S => bListT S (S.o ht) hlen fun l2 s' S => ?_))))))))
    exact h l2 _ _ _ s' (ExtB.refl _ _) e2 (Nat.le_succ _) (fun _ _ => rfl) ⟨t, ho, ht⟩ (St.back (S.sub (List.Sublist.cons _ (.refl _))))
end
end Mine
end
section
open PySem PySem.W PyProof.Rows PySem.Calls
set_option Elab.async false
set_option maxRecDepth 100000
set_option linter.unusedVariables false
namespace Mine
open PySem (Sem Str Value Heap Obj Shared)
section
variable {C : Cx} {a : Adr} {ρ : Wd} {τ σ : Lc} {s : Shared} {A : Around} {E : Value → Shared → Prop} {R : Result → Shared → Prop} {Q : Value → Shared → Prop}
theorem insObj {x Cl dx : Addr} (S : St C ρ τ σ s) (e : ρ x = some (.ins Cl dx)) : ∃ o, s.heap.get? x = some o ∧ o.cls ≠ .type "tuple" := by
  obtain ⟨o, h, c, _⟩ := S.o e
  exact ⟨o, h, by rw [c]; exact fun q => nomatch q⟩
theorem oIs {x y Cl dx Cl' dy : Addr} (S : St C ρ τ σ s) (ex : ρ x = some (.ins Cl dx)) (ey : ρ y = some (.ins Cl' dy)) (h : Q (.bool (decide (x = y))) s) : wpAny C.M A (compareOp .Is (.ref x) (.ref y)) Q E s := by
  by_cases q : x = y
  · subst q; rw [decide_eq_true rfl] at h; exact wpAny_is_ref_self h
  · rw [decide_eq_false q] at h
    obtain ⟨o, e1, n⟩ := insObj S ex
    obtain ⟨o', e2, _⟩ := insObj S ey
    exact wpAny_is_ref_other q e1 e2 n h
theorem oIsNot {x y Cl dx Cl' dy : Addr} (S : St C ρ τ σ s) (ex : ρ x = some (.ins Cl dx)) (ey : ρ y = some (.ins Cl' dy)) (h : Q (.bool (!decide (x = y))) s) : wpAny C.M A (compareOp .IsNot (.ref x) (.ref y)) Q E s := by
  by_cases q : x = y
  · subst q; rw [decide_eq_true rfl] at h; exact wpAny_isNot_ref_self h
  · rw [decide_eq_false q] at h
    obtain ⟨o, e1, n⟩ := insObj S ex
    obtain ⟨o', e2, _⟩ := insObj S ey
    exact wpAny_isNot_ref_other q e1 e2 n h
theorem node_ins {W : Wo} {IC : Addr} (N : Nodes ρ IC W) {i : Nat} (hi : W.live i) : ∃ dx, ρ (W.x i) = some (.ins IC dx) := let ⟨dx, _, _, _, _, e, _⟩ := N i hi; ⟨dx, e⟩
theorem nIs {W : Wo} {IC : Addr} (O : W.Ok) (N : Nodes ρ IC W) {i j : Nat} (hi : W.live i) (hj : W.live j) (S : St C ρ τ σ s) (h : Q (.bool (decide (i = j))) s) : wpAny C.M A (compareOp .Is (.ref (W.x i)) (.ref (W.x j))) Q E s := by
  obtain ⟨dx, ex⟩ := node_ins N hi
  obtain ⟨dy, ey⟩ := node_ins N hj
  refine oIs S ex ey ?_
  rw [show decide (W.x i = W.x j) = decide (i = j) from decide_eq_decide.mpr ⟨O.inj i j hi hj, fun e => by rw [e]⟩]; exact h
theorem nIsNot {W : Wo} {IC : Addr} (O : W.Ok) (N : Nodes ρ IC W) {i j : Nat} (hi : W.live i) (hj : W.live j) (S : St C ρ τ σ s) (h : Q (.bool (!decide (i = j))) s) : wpAny C.M A (compareOp .IsNot (.ref (W.x i)) (.ref (W.x j))) Q E s := by
  obtain ⟨dx, ex⟩ := node_ins N hi
  obtain ⟨dy, ey⟩ := node_ins N hj
  refine oIsNot S ex ey ?_
  rw [show decide (W.x i = W.x j) = decide (i = j) from decide_eq_decide.mpr ⟨O.inj i j hi hj, fun e => by rw [e]⟩]; exact h
theorem tList {l : Addr} {xs : List Value} {Q : Bool → Shared → Prop} (S : St C ρ τ σ s) (hl : s.heap.PlainList l xs.toArray) (hz : xs.length ≤ Big) (h : ∀ s', St C ρ τ σ s' → Q (!xs.isEmpty) s') : wpAny C.M A (truthy (.ref l)) Q E s :=
  wpAny_truthy_list hl.isList (by rw [List.size_toArray]; have : xs.length ≤ 100000 := hz; ((with_reducible refine oz5 ‹_› ?_); exact rfl)) (by
    have := h _ (S.tok (s.toks + 1 + 1))
    have e : xs.toArray.isEmpty = xs.isEmpty := by cases xs <;> rfl
    rw [e]; exact this)
noncomputable def RowsAt (ρ : Wd) (W : Wo) : List Addr → List (List Nat) → Prop
  | [], [] => True
  | l :: ls, r :: rs => ρ l = some (.list (W.refs r)) ∧ RowsAt ρ W ls rs
  | _, _ => False
theorem RowsAt.len {W : Wo} : ∀ {ls : List Addr} {rs : List (List Nat)}, RowsAt ρ W ls rs → ls.length = rs.length
  | [], [], _ => rfl
  | _ :: _, _ :: _, h => congrArg (· + 1) h.2.len
theorem RowsAt.get {W : Wo} : ∀ {ls : List Addr} {rs : List (List Nat)} {k : Nat} {l : Addr}, RowsAt ρ W ls rs → ls[k]? = some l → ∃ r, rs[k]? = some r ∧ ρ l = some (.list (W.refs r))
  | _ :: _, r :: _, 0, _, h, e => by cases e; exact ⟨r, rfl, h.1⟩
  | _ :: ls, _ :: rs, k + 1, l, h, e => RowsAt.get (ls := ls) (rs := rs) (k := k) h.2 e
theorem RowsAt.ext {W : Wo} {ρ' : Wd} : ∀ {ls : List Addr} {rs : List (List Nat)}, RowsAt ρ W ls rs → Ext ρ ρ' → RowsAt ρ' W ls rs
  | [], [], _, _ => trivial
  | _ :: _, _ :: _, h, e => ⟨e _ _ h.1, h.2.ext e⟩
noncomputable abbrev adrs (ls : List Addr) : List Value := ls.map .ref
noncomputable def canB (rows : List (List Nat)) (j : Nat) : Bool := rows.all fun r => r.head? == some j || !r.contains j
theorem forLoop_c {α : Type} {env : Env} {target : Expr} {body orelse : List Stmt} {I : Addr} {it : Nat → AObj} {vs : List Value} {dep : Heap → Prop} {E' : Value → Shared → Prop} (W : Wk C A I it vs dep) (ρ : α → Wd) (σ : α → Lc) (P : Nat → α → Prop)
    (hE : ∀ e s', E' e s' → notedBy C.M A env (fun e s' => R (.error e) s') e s')
    (hdep : ∀ i x a s, P i x → St C (ρ x) ((I, a) :: τ) (σ x) s → dep s.heap)
    (x0 : α) (S : St C (ρ x0) ((I, it 0) :: τ) (σ x0) s) (h0 : P 0 x0)
    (turn : ∀ i (Qb : Flow → Shared → Prop) (Eb : Value → Shared → Prop), (∀ x' s', P (i + 1) x' → St C (ρ x') ((I, it (i + 1)) :: τ) (σ x') s' → Qb .next s' ∧ Qb .cont s') → (∀ e s', E' e s' → Eb e s') → (∀ v s', R (.ok (.ret v)) s' → Qb (.ret v) s') →
      ∀ x v s, vs[i]? = some v → P i x → St C (ρ x) ((I, it (i + 1)) :: τ) (σ x) s → turnWp C.M A target I body env Qb Eb v s)
    (fin : ∀ x s, P vs.length x → St C (ρ x) τ (σ x) s → wpAny C.M A (execs orelse env) (fun f s₃ => R (.ok f) s₃) E' s) :
    codeAny C.M A (.forLoop target (.ref I) body orelse env) R s :=
  forLoop_st W ρ σ P hE hdep x0 S h0 (fun i x v s hv hP S => turn i _ _ (fun x' s' p q => ⟨⟨x', p, q⟩, ⟨x', p, q⟩⟩) (fun _ _ h => h) (fun _ _ h => h) x v s hv hP S) fin
theorem canChoose_ok (T : Text C a) {W : Wo} (O : W.Ok) (N : Nodes ρ a.ic W) {j : Nat} (hj : W.live j) {l : Addr} {ls : List Addr} {rows : List (List Nat)} (h1 : ρ l = some (.list (adrs ls))) (h2 : RowsAt ρ W ls rows)
    (hr : ∀ r, r ∈ rows → r.length ≤ Big ∧ ∀ k, k ∈ r → W.live k) (S : St C ρ τ σ s) (r : Rm A 1) (hh : Hd A ρ)
    (h : ∀ s', St C ρ τ σ s' → R (.ok (.ret (.bool (canB rows j)))) s') : codeAny C.M A (.call (.ref a.canChoose) ⟨[.ref (W.x j), .ref l], []⟩) R s := by
  refine enter S T.fCanChoose r.d (binds := [("base", .ref (W.x j)), ("base_tree_remaining", .ref l)]) (fun _ _ _ _ _ _ => BindsTo.of_eq rfl) fun L cdv s' S => ?_
  refine xcons (xFor (ldL S rfl rfl (itList S (S.o h1) fun I s' S _ => ?_)))
  refine forLoop_c (α := Mp) (E' := fun _ _ => False) (Wk.listH I l (adrs ls)) (fun _ => ρ) (fun m => [(L, .fr "frame" m)])
    (fun i m => m "base" = some (.ref (W.x j)) ∧ canB (rows.take i) j = true) noE (fun i x a s _ S => ⟨S.o h1, hh.h S⟩) _ S ⟨rfl, rfl⟩ ?_ ?_
  · rintro i Qb Eb hQb hEb hRb m v s hv ⟨m1, m2⟩ S
    obtain ⟨li, hli, ev⟩ : ∃ li, ls[i]? = some li ∧ v = .ref li := by
      rw [List.getElem?_map, Option.map_eq_some_iff] at hv
      obtain ⟨x, e, q⟩ := hv; exact ⟨x, e, q.symm⟩
    subst ev
    obtain ⟨row, hrow, el⟩ := h2.get hli
    have hm := hr row (List.mem_of_getElem? hrow)
    have htk : rows.take (i + 1) = rows.take i ++ [row] := by rw [List.take_add_one, hrow]; rfl
    have hz : (W.refs row).length ≤ Big := by rw [Wo.refs, List.length_map]; exact hm.1
    refine wpAny_of_eq (a := ()) rfl (wpAny_assign_Name (stL S rfl fun s' S => ?_))
    refine xcons (wpAny_If (isTrue_or (isTrue_not (isTrue_plain (ldL S rfl rfl (tList S (S.o el) hz fun s' S => ?_))))))
    have step : canB (rows.take (i + 1)) j = (canB (rows.take i) j && (row.head? == some j || !row.contains j)) := by rw [htk]; simp [canB]
    cases row with
    | nil =>
      refine xcons (wpAny_Continue (hQb _ _ ?_ S).2)
      exact ⟨m1, by rw [step, m2]; rfl⟩
    | cons k row =>
      have hk : W.live k := hm.2 k (.head _)
      refine isTrue_or (xCmp (xSub (ldL S rfl rfl (cInt S fun t s' S => sIdx (v := .ref (W.x k)) (S.o el) rfl (by omega) (by omega) (ldL S rfl m1 (nIs O N hk hj S (wpAny_truthy_bool ?_)))))))
      by_cases e : k = j
      · rw [decide_eq_true e]
        refine xcons (wpAny_Continue (hQb _ _ ?_ S).2)
        exact ⟨m1, by rw [step, m2, e]; simp⟩
      · rw [decide_eq_false e]
        refine isTrue_or_nil (wpAny_execs_nil (xcons (xFor (ldL S rfl rfl (itList S (S.o el) fun I2 s' S _ => ?_)))))
        refine forLoop_t (α := Mp) (E' := fun _ _ => False) (Wk.listH I2 li (W.refs (k :: row))) (fun _ => ρ) (fun m => [(L, .fr "frame" m)])
          (fun i m => m "base" = some (.ref (W.x j)) ∧ ((k :: row).take i).contains j = false) noE (fun i x a s _ S => ⟨S.o el, hh.h S⟩) _ S ⟨m1, by simp⟩ ?_ ?_
        · rintro i2 Qc Ec hQc hEc hRc m v s hv ⟨m1, m3⟩ S
          obtain ⟨k2, hk2, ev⟩ : ∃ k2, (k :: row)[i2]? = some k2 ∧ v = .ref (W.x k2) := by
            rw [Wo.refs, List.getElem?_map, Option.map_eq_some_iff] at hv
            obtain ⟨x, e, q⟩ := hv; exact ⟨x, e, q.symm⟩
          subst ev
          have hl2 : W.live k2 := hm.2 k2 (List.mem_of_getElem? hk2)
          have htk2 : (k :: row).take (i2 + 1) = (k :: row).take i2 ++ [k2] := by rw [List.take_add_one, hk2]; rfl
          refine wpAny_of_eq (a := ()) rfl (wpAny_assign_Name (stL S rfl fun s' S => ?_))
          refine xcons (wpAny_If (xCmp (ldL S rfl rfl (ldL S rfl m1 (nIs O N hl2 hj S (wpAny_truthy_bool ?_))))))
          by_cases e2 : k2 = j
          · rw [decide_eq_true e2]
            refine xcons (wpAny_Return_some (cBool ?_))
            have : canB rows j = false := by
              rw [canB, List.all_eq_false]
              refine ⟨k :: row, List.mem_of_getElem? hrow, ?_⟩
              have h1 : (k :: row).contains j = true := by rw [List.contains_iff_mem, ← e2]; exact List.mem_of_getElem? hk2
              rw [h1]
              simp [e]
            rw [← this]
            exact hRc _ _ (hRb _ _ (h s' S.dropT.dropT.forget.back0))
          · rw [decide_eq_false e2]
            refine wpAny_execs_nil (wpAny_execs_nil (hQc _ _ ?_ S))
            refine ⟨m1, ?_⟩
            rw [htk2, List.contains_eq_any_beq, List.any_append, ← List.contains_eq_any_beq, m3]
            simp [Ne.symm e2]
        · rintro m s ⟨m1, m3⟩ S
          refine wpAny_execs_nil (wpAny_execs_nil (hQb _ _ ?_ S).1)
          refine ⟨m1, ?_⟩
          rw [Wo.refs, List.length_map, List.take_length] at m3
          rw [step, m2, m3]; simp
  · rintro m s ⟨m1, m2⟩ S
    refine wpAny_execs_nil (xcons (wpAny_Return_some (cBool ?_)))
    have : canB rows j = true := by rw [← m2, List.length_map, h2.len, List.take_length]
    rw [← this]
    exact h s S.forget.back0
end
end Mine
end
section
open PySem PySem.W PyProof.Rows PySem.Calls
set_option Elab.async false
set_option maxRecDepth 100000
set_option linter.unusedVariables false
namespace Mine
open PySem (Sem Str Value Heap Obj Shared)
noncomputable def kindNames : List Str := ["_mro", "leaf", "memo", "base_tree", "bases_had_inconsistency", "_own_legacy", "direct_inconsistency"]
noncomputable def KDom (m : Mp) : Prop := ∀ x : Str, kindNames.contains x = false → m x = none
noncomputable def findB (rows : List (List Nat)) : Option Nat := (rows.filterMap List.head?).find? (canB rows)
section
variable {C : Cx} {a : Adr} {ρ : Wd} {τ σ : Lc} {s : Shared} {A : Around} {E : Value → Shared → Prop} {R : Result → Shared → Prop} {Q : Value → Shared → Prop}
noncomputable def optRef (W : Wo) : Option Nat → Value
  | some j => .ref (W.x j)
  | none => .none
theorem findNext_ok (T : Text C a) {W : Wo} (O : W.Ok) (N : Nodes ρ a.ic W) {b : Bool} {x dx : Addr} {z : Nat} {m : Mp} (e1 : ρ x = some (.ins (a.kind b) dx)) (e2 : ρ dx = some (.nsd z m)) (hm : KDom m)
    {l : Addr} {ls : List Addr} {rows : List (List Nat)} (h1 : ρ l = some (.list (adrs ls))) (h2 : RowsAt ρ W ls rows)
    (hr : ∀ r, r ∈ rows → r ≠ [] ∧ r.length ≤ Big ∧ ∀ k, k ∈ r → W.live k) (S : St C ρ τ σ s) (r : Rm A 2) (hh : Hd A ρ)
    (h : ∀ s', St C ρ τ σ s' → R (.ok (.ret (optRef W (findB rows)))) s') : codeAny C.M A (.call (.ref a.findNext) ⟨[.ref x, .ref l], []⟩) R s := by
  refine enter S T.fFindNext r.d (binds := [("self", .ref x), ("base_tree_remaining", .ref l)]) (fun _ _ _ _ _ _ => BindsTo.of_eq rfl) fun L cdv s' S => ?_
  refine xcons (xFor (ldL S rfl rfl (itList S (S.o h1) fun I s' S _ => ?_)))
  refine forLoop_t (α := Mp) (E' := fun _ _ => False) (Wk.listH I l (adrs ls)) (fun _ => ρ) (fun m => [(L, .fr "frame" m)])
    (fun i m => m "self" = some (.ref x) ∧ m "base_tree_remaining" = some (.ref l) ∧ ∀ j, j ∈ (rows.take i).filterMap List.head? → canB rows j = false) noE (fun i x a s _ S => ⟨S.o h1, hh.h S⟩) _ S ⟨rfl, rfl, by simp⟩ ?_ ?_
  · rintro i Qb Eb hQb hEb hRb m v s hv ⟨m1, m2, m3⟩ S
    obtain ⟨li, hli, ev⟩ : ∃ li, ls[i]? = some li ∧ v = .ref li := by
      rw [List.getElem?_map, Option.map_eq_some_iff] at hv
      obtain ⟨x, e, q⟩ := hv; exact ⟨x, e, q.symm⟩
    subst ev
    obtain ⟨row, hrow, el⟩ := h2.get hli
    have hm0 := hr row (List.mem_of_getElem? hrow)
    have htk : rows.take (i + 1) = rows.take i ++ [row] := by rw [List.take_add_one, hrow]; rfl
    cases row with
    | nil => exact absurd rfl hm0.1
    | cons k row =>
      have hk : W.live k := hm0.2.2 k (.head _)
      refine wpAny_of_eq (a := ()) rfl (wpAny_assign_Name (stL S rfl fun s' S => ?_))
      refine xcons (xAsg (xSub (ldL S rfl rfl (cInt S fun t s' S => sIdx (v := .ref (W.x k)) (S.o el) rfl (by omega) (by omega) (stL S rfl fun s' S => ?_)))))
      refine xcons (wpAny_If (isTrue_plain (xMeth (ldL S rfl m1 (gStat S e1 e2 (T.kCan b) (hm _ rfl) fun s' S => cwK T.fCanChoose.keep (ldL S rfl rfl (ldL S rfl m2 ?_)))))))
      refine ⟨S.amb.x, callC (canChoose_ok T O N hk h1 h2 (fun r hr' => (hr r hr').2) S (r.deeper _) (hh.deeper _) fun s' S => wpAny_truthy_bool ?_)⟩
      cases q : canB rows k with
      | true =>
        refine xcons (wpAny_Return_some (ldL S rfl rfl ?_))
        have : findB rows = some k := by
          have e : rows.filterMap List.head? = (rows.take i).filterMap List.head? ++ k :: (rows.drop (i + 1)).filterMap List.head? := by
            conv => lhs; rw [← List.take_append_drop (i + 1) rows]
            rw [List.filterMap_append, htk, List.filterMap_append]
            simp
          rw [findB, e, List.find?_append, List.find?_eq_none.mpr (fun j hj => by rw [m3 j hj]; decide), List.find?_cons_of_pos q]
          rfl
        rw [show (Value.ref (W.x k)) = optRef W (findB rows) by rw [this]; rfl]
        exact hRb _ _ (h s' S.dropT.forget.back0)
      | false =>
        refine wpAny_execs_nil (wpAny_execs_nil (hQb _ _ ?_ S))
        refine ⟨m1, m2, fun j hj => ?_⟩
        rw [htk, List.filterMap_append] at hj
        rcases List.mem_append.mp hj with hj | hj
        · exact m3 j hj
        · simp at hj; subst hj; exact q
  · rintro m s ⟨m1, m2, m3⟩ S
    refine wpAny_execs_nil (xcons (wpAny_Return_some (cNone ?_)))
    have : findB rows = none := by
      rw [List.length_map, h2.len, List.take_length] at m3
      rw [findB, List.find?_eq_none]
      intro j hj; rw [m3 j hj]; decide
    rw [show Value.none = optRef W (findB rows) by rw [this]; rfl]
    exact h s S.forget.back0
end
end Mine
end
section
open PySem PySem.W PyProof.Rows PySem.Calls
set_option Elab.async false
set_option maxRecDepth 100000
set_option linter.unusedVariables false
namespace Mine
open PySem (Sem Str Value Heap Obj Shared)
section
variable {C : Cx} {ρ : Wd} {τ σ : Lc} {s : Shared} {A : Around} {E : Value → Shared → Prop} {Q : Value → Shared → Prop}
theorem xFilter {l : Addr} {xs : List Value} (S : St C ρ τ σ s) (hl : s.heap.PlainList l xs.toArray) (h : ∀ f I s', f ≠ I → St C ρ τ (σ ++ [(I, litO l 0)] ++ [(f, .raw (flObj I))]) s' → Q (.ref f) s') :
    wpAny C.M A (call (.type "filter") [.none, .ref l]) Q E s := by
  refine call_filter hl.isList ?_
  have S1 := S.add (pushG s (liObj l)) (none_size _) (x := litO l 0) ⟨_, Heap.get?_push_size _ rfl, rfl, rfl⟩
  have e : (s.heap.push (liObj l)).objs.size = s.heap.objs.size + 1 := Heap.size_push ..
  have S2 := S1.add (pushG _ (flObj s.heap.objs.size)) (none_size _) (x := .raw (flObj s.heap.objs.size)) ⟨_, Heap.get?_push_size _ rfl, .refl _⟩
  dsimp only at S2
  rw [e] at S2
  exact h _ _ _ (Nat.succ_ne_self _) S2
theorem xListF {L I f : Addr} {its : FlIts} (S : St C ρ τ (σ ++ [(I, litO L 0)] ++ [(f, .raw (flObj I))]) s) (hh : A.handled = none) (hfI : f ≠ I) (hz : its.length ≤ Big) (hd : FlDep s.heap L its)
    (h : ∀ D s', St C ρ τ (σ ++ [(D, .list (flKept its))]) s' → Q (.ref D) s') : wpAny C.M A (call (.type "list") [.ref f]) Q E s := by
  have hi : (litO L 0).At C s.heap I := (S.loc (I, litO L 0) (by simp)).1
  obtain ⟨o, hf, sx⟩ := (S.loc (f, AObj.raw (flObj I)) (by simp)).1
  have e := sx.eq (show Value.type "filter" ≠ _ by decide)
  subst e
  refine call_list_filter (its := its) hh hfI hz hi hf hd fun s' D hD c hl => ?_
  have S1 : St C ρ ((I, litO L 0) :: τ) (σ ++ [(f, .raw (flObj I))]) s := S.perm (by
    rw [List.append_assoc, List.append_assoc, List.append_assoc]
    exact List.Perm.append_left σ (List.Perm.trans (List.Perm.swap _ _ _) (.refl _)))
  have hs : Chg I s s' := ⟨fun b o n e => c.ext b o n (fun q => by rw [q, hD] at e; cases e) e, c.os, c.gens⟩
  have S2 := S1.gone hs
  have S3 : St C ρ τ σ s' := S2.sub (by rw [List.append_assoc]; exact List.Sublist.append_left (List.sublist_cons_self ..) σ)
  have fD := S1.fresh hD
  refine h D s' ⟨S3.amb, S3.os, S3.gens, S3.out, fun p hp => ?_, ?_⟩
  · rw [List.append_assoc] at hp
    rcases List.mem_append.mp hp with hp | hp
    · exact S3.loc p (List.mem_append_left _ hp)
    · rcases List.mem_append.mp hp with hp | hp
      · cases List.mem_singleton.mp hp; exact ⟨hl, fD.2.2, fD.1⟩
      · exact S3.loc p (List.mem_append_right _ hp)
  · have pm : ((σ ++ [(D, AObj.list (flKept its))]) ++ τ).Perm ((D, AObj.list (flKept its)) :: (σ ++ τ)) := by
      rw [List.append_assoc]; exact List.perm_middle
    refine ((pm.map (·.1)).nodup_iff).mpr ?_
    rw [List.map_cons, List.nodup_cons]
    refine ⟨fun hx => ?_, S3.nd⟩
    obtain ⟨p, hp, q⟩ := List.mem_map.mp hx
    refine fD.2.1 p ?_ q
    rcases List.mem_append.mp hp with hp | hp
    · exact List.mem_append_left _ (List.mem_append_left _ hp)
    · exact List.mem_append_right _ (.tail _ hp)
end
noncomputable def neRows (rows : List (List Nat)) (ign : Option Nat) : List (List Nat) := (rows.map fun r => r.filter fun k => some k != ign).filter fun r => !r.isEmpty
noncomputable def itsOf (W : Wo) : List Addr → List (List Nat) → FlIts
  | l :: ls, r :: rs => (l, W.refs r) :: itsOf W ls rs
  | _, _ => []
theorem itsOf_map {ρ : Wd} {W : Wo} : ∀ {ls : List Addr} {rs : List (List Nat)}, RowsAt ρ W ls rs → (itsOf W ls rs).map (fun p => Value.ref p.1) = adrs ls
  | [], [], _ => rfl
  | _ :: ls, _ :: rs, h => congrArg (_ :: ·) (itsOf_map (ls := ls) (rs := rs) h.2)
theorem itsOf_mem {ρ : Wd} {W : Wo} : ∀ {ls : List Addr} {rs : List (List Nat)}, RowsAt ρ W ls rs → ∀ p, p ∈ itsOf W ls rs → ρ p.1 = some (.list p.2) ∧ ∃ r, r ∈ rs ∧ p.2 = W.refs r
  | l :: ls, r :: rs, h, p, hp => by
    rcases List.mem_cons.mp hp with rfl | hp
    · exact ⟨h.1, r, .head _, rfl⟩
    · obtain ⟨a, r, b, c⟩ := itsOf_mem (ls := ls) (rs := rs) h.2 p hp; exact ⟨a, r, .tail _ b, c⟩
theorem itsOf_kept {ρ : Wd} {W : Wo} : ∀ {ls : List Addr} {rs : List (List Nat)}, RowsAt ρ W ls rs → ∃ ls', flKept (itsOf W ls rs) = adrs ls' ∧ RowsAt ρ W ls' (rs.filter fun r => !r.isEmpty)
  | [], [], _ => ⟨[], rfl, trivial⟩
  | l :: ls, r :: rs, h => by
    obtain ⟨ls', e, h'⟩ := itsOf_kept (ls := ls) (rs := rs) h.2
    have q : (W.refs r).isEmpty = r.isEmpty := by cases r <;> rfl
    cases c : r.isEmpty with
    | true => exact ⟨ls', by simpa [flKept, itsOf, q, c] using e, by simpa [c] using h'⟩
    | false =>
      refine ⟨l :: ls', ?_, ?_⟩
      · simp only [itsOf, flKept, List.filter_cons, q, c, Bool.not_false, if_true, List.map_cons]
        exact congrArg (_ :: ·) e
      · rw [List.filter_cons, c]; exact ⟨h.1, h'⟩
theorem itsOf_len {ρ : Wd} {W : Wo} : ∀ {ls : List Addr} {rs : List (List Nat)}, RowsAt ρ W ls rs → (itsOf W ls rs).length = rs.length
  | [], [], _ => rfl
  | _ :: ls, _ :: rs, h => congrArg (· + 1) (itsOf_len (ls := ls) (rs := rs) h.2)
theorem RowsAt.snoc {ρ : Wd} {W : Wo} : ∀ {ls : List Addr} {rs : List (List Nat)} {l : Addr} {r : List Nat}, RowsAt ρ W ls rs → ρ l = some (.list (W.refs r)) → RowsAt ρ W (ls ++ [l]) (rs ++ [r])
  | [], [], _, _, _, e => ⟨e, trivial⟩
  | _ :: ls, _ :: rs, _, _, h, e => ⟨h.1, RowsAt.snoc (ls := ls) (rs := rs) h.2 e⟩
section
variable {C : Cx} {a : Adr} {ρ : Wd} {τ σ : Lc} {s : Shared} {A : Around} {R : Result → Shared → Prop}
theorem nonEmpty_ok (T : Text C a) {W : Wo} (O : W.Ok) (N : Nodes ρ a.ic W) {ign : Option Nat} (hi : ∀ j, ign = some j → W.live j) {l : Addr} {ls : List Addr} {rows : List (List Nat)} (h1 : ρ l = some (.list (adrs ls))) (h2 : RowsAt ρ W ls rows)
    (hz : rows.length ≤ Big) (hr : ∀ r, r ∈ rows → r.length ≤ Big ∧ ∀ k, k ∈ r → W.live k) (S : St C ρ τ σ s) (r : Rm A 1) (hh : A.handled = none)
    (h : ∀ D ls' ρ' s', Ext ρ ρ' → RowsAt ρ' W ls' (neRows rows ign) → St C ρ' τ (σ ++ [(D, .list (adrs ls'))]) s' → R (.ok (.ret (.ref D))) s') :
    codeAny C.M A (.call (.ref a.nonEmpty) ⟨[.ref l, optRef W ign], []⟩) R s := by
  refine enter S T.fNonEmpty r.d (binds := [("base_tree", .ref l), ("ignoring", optRef W ign)]) (fun _ _ _ _ _ _ => BindsTo.of_eq rfl) fun L cdv s' S => ?_
  refine pk2 (P1 := fun (m0 : Mp) => m0 "base_tree" = some (.ref l)) (P2 := fun (m0 : Mp) => St C ρ (σ ++ τ) [(L, .fr "frame" m0), (L + 1, .cell (some (optRef W ign)))] s') _ (rfl) (S) fun m0 hm0 S => ?_
  refine xcons (wpAny_Return_some (Call_ (ldB S (T.nog _ rfl) rfl (cwT (Call_ (ldB S (T.nog _ rfl) boot_filter (cwT (cNone ?_))))))))
  refine listComp_st (τ := σ ++ τ) (α := Wd × List Addr) (E' := fun _ _ => False) (fun y => y.1) (fun _ => [(L, .fr "frame" m0), (L + 1, .cell (some (optRef W ign)))])
    (fun i y ys => Ext ρ y.1 ∧ ys = adrs y.2 ∧ RowsAt y.1 W y.2 ((rows.take i).map fun r => r.filter fun k => some k != ign)) rfl (by rfl) rfl (fun _ _ _ f => f.elim) ?_
  refine ldL S rfl hm0 (itList S (S.o h1) fun I s' S _ => ⟨I, _, adrs ls, _, (ρ, []), rfl, Wk.listH I l (adrs ls), ?_, S, ⟨.refl _, rfl, trivial⟩, ?_, ?_, ?_⟩)
  · rw [List.length_map, h2.len]; exact hz
  · rintro i ⟨ρ1, ls1⟩ ys τ' σ' s ⟨x1, _, _⟩ S; exact ⟨S.o (x1 _ _ h1), .inl hh⟩
  · rintro i ⟨ρ1, ls1⟩ v ys Lc D m s hv ⟨x1, hys, hrs⟩ hmv S
    dsimp only at S x1 hys hrs
    obtain ⟨li, hli, ev⟩ : ∃ li, ls[i]? = some li ∧ v = .ref li := by
      rw [List.getElem?_map, Option.map_eq_some_iff] at hv
      obtain ⟨x, e, q⟩ := hv; exact ⟨x, e, q.symm⟩
    subst ev
    obtain ⟨row, hrow, el⟩ := h2.get hli
    have hm1 := hr row (List.mem_of_getElem? hrow)
    refine tests_nil ?_
    rw [if_pos rfl]
    refine listComp_st (τ := (D, .list ys) :: (I, litO l (i + 1)) :: (σ ++ τ)) (α := Unit) (E' := fun _ _ => False) (fun _ => ρ1) (fun _ => [(Lc, .fr "dict" m), (L, .fr "frame" m0), (L + 1, .cell (some (optRef W ign)))])
      (fun i _ ys => ys = W.refs ((row.take i).filter fun k => some k != ign)) rfl (by rfl) rfl (fun _ _ _ f => f.elim) ?_
    refine ldL S rfl hmv (itList S (S.o (x1 _ _ el)) fun I2 s' S _ => ⟨I2, _, W.refs row, _, (), rfl, Wk.listH I2 li (W.refs row), ?_, S, rfl, ?_, ?_, ?_⟩)
    · rw [Wo.refs, List.length_map]; exact hm1.1
    · rintro i y ys τ' σ' s _ S; exact ⟨S.o (x1 _ _ el), .inl hh⟩
    · rintro i2 _ v ys2 L2 D2 m2 s hv2 hys2 hmv2 S
      obtain ⟨k, hk, ev⟩ : ∃ k, row[i2]? = some k ∧ v = .ref (W.x k) := by
        rw [Wo.refs, List.getElem?_map, Option.map_eq_some_iff] at hv2
        obtain ⟨x, e, q⟩ := hv2; exact ⟨x, e, q.symm⟩
      subst ev
      have hlk : W.live k := hm1.2 k (List.mem_of_getElem? hk)
      have htk : row.take (i2 + 1) = row.take i2 ++ [k] := by rw [List.take_add_one, hk]; rfl
      refine tests_one (wpAny_mono (Q := fun b s4 => b = (some k != ign) ∧ St C ρ1 ((D2, .list ys2) :: (I2, litO li (i2 + 1)) :: (D, .list ys) :: (I, litO l (i + 1)) :: (σ ++ τ)) [(L2, .fr "dict" m2), (Lc, .fr "dict" m), (L, .fr "frame" m0), (L + 1, .cell (some (optRef W ign)))] s4) ?_ (fun b s4 hb => ?_) fun _ _ f => f)
      · refine xCmp (ldL S rfl hmv2 (ldC S 3 rfl ?_))
        cases ign with
        | none => exact wpAny_isNot_other rfl (fun q => nomatch q) (wpAny_truthy_bool ⟨rfl, S⟩)
        | some j => exact nIsNot O (N.ext x1) hlk (hi j rfl) S (wpAny_truthy_bool ⟨by by_cases q : k = j <;> simp [q], S⟩)
      · obtain ⟨hb, S⟩ := hb
        cases b with
        | true =>
          rw [if_pos rfl]
          refine ldL S rfl hmv2 ⟨(), ?_, S⟩
          rw [hys2, htk, List.filter_append, Wo.refs, Wo.refs, List.map_append]
          simp [← hb]
        | false =>
          rw [if_neg Bool.false_ne_true]
          refine ⟨(), ?_, S⟩
          rw [hys2, htk, List.filter_append]
          simp [← hb]
    · rintro _ ys2 D2 s hys2 S
      rw [show (W.refs row).length = row.length from List.length_map .., List.take_length] at hys2
      subst hys2
      have S1 := S.give 3 rfl
      have n1 := S.none_of_nth 3 rfl
      refine ⟨(upd ρ1 D2 (.list (W.refs (row.filter fun k => some k != ign))), ls1 ++ [D2]), ⟨x1.trans (ext_upd _ n1), ?_, ?_⟩, S1⟩
      · rw [hys]; show adrs ls1 ++ [Value.ref D2] = adrs (ls1 ++ [D2]); simp [adrs]
      · rw [List.take_add_one, hrow, List.map_append]
        exact (hrs.ext (ext_upd _ n1)).snoc (upd_self ..)
  · rintro ⟨ρ1, ls1⟩ ys D s ⟨x1, hys, hrs⟩ S
    dsimp only at S x1 hys hrs
    rw [List.length_map, h2.len, List.take_length] at hrs
    subst hys
    refine xFilter S (S.at 2 rfl) fun f I2 s' hne S => ?_
    have hd : FlDep s'.heap D (itsOf W ls1 (rows.map fun r => r.filter fun k => some k != ign)) := by
      refine ⟨?_, fun p hp => ?_⟩
      · rw [itsOf_map hrs]; exact S.at 2 rfl
      · obtain ⟨e, r, hr1, hr2⟩ := itsOf_mem hrs p hp
        obtain ⟨r0, h0, e0⟩ := List.mem_map.mp hr1
        refine ⟨S.o e, ?_⟩
        rw [hr2, Wo.refs, List.length_map, ← e0]
        exact Nat.le_trans (List.length_filter_le ..) (hr r0 h0).1
    obtain ⟨ls2, hk, hrs2⟩ := itsOf_kept hrs
    refine xListF (σ := [(L, .fr "frame" m0), (L + 1, .cell (some (optRef W ign))), (D, .list (adrs ls1))]) S hh hne ?_ hd fun D2 s' S => ?_
    · rw [itsOf_len hrs, List.length_map]; exact hz
    · rw [hk] at S
      exact h D2 ls2 ρ1 s' x1 hrs2 (St.back (S.sub (List.Sublist.cons _ (List.Sublist.cons _ (List.Sublist.cons _ (.refl _))))))
end
end Mine
end
section
open PySem PySem.W PyProof.Rows PySem.Calls
set_option Elab.async false
set_option maxRecDepth 100000
set_option linter.unusedVariables false
namespace Mine
open PySem (Sem Str Value Heap Obj Shared)
section
variable {C : Cx} {a : Adr} {ρ : Wd} {τ σ : Lc} {s : Shared} {A : Around} {R : Result → Shared → Prop}
noncomputable def IncObj (inc : Addr) (y : AObj) : Prop := ∃ t d, y = .raw { excNew inc t with dict := some d }
theorem mkInc_ok (T : Text C a) {b : Bool} {x dx : Addr} {z : Nat} {m : Mp} {v w : Value} (e1 : ρ x = some (.ins (a.kind b) dx)) (e2 : ρ dx = some (.nsd z m)) (hl : m "leaf" = some w) (hw : handedIn w = true) (S : St C ρ τ σ s) (r : Rm A 2)
    (h : ∀ e ρ' s' y, Ext ρ ρ' → ρ e = none → (∀ p, p ∈ σ ++ τ → p.1 ≠ e) → ρ' e = some y → IncObj a.inc y → St C ρ' τ σ s' → R (.ok (.ret (.ref e))) s') :
    codeAny C.M A (.call (.ref a.inc) ⟨[.ref x, v], []⟩) R s := by
  have X0 := T.incX
  obtain ⟨nm, q, N, bs, sn, sub, ab, col, dd, k0, k1, k2, k3, k5, mN, hC, hN, hno⟩ := T.incX
  obtain ⟨hh, g, d, t, os⟩ := s
  have X := S.amb.x
  refine exc_make F.excBase_TypeError (X _ _ hC) (looks_findIn X T.incI) (fun self => bind_fn X self T.incT) (by rw [sizeLine_eq]; show 2 ≤ _; decide) ?_
  have n0 := S.fresh (a := hh.objs.size) (none_size hh)
  have ez : (hh.push { cls := .type "tuple", data := .seq [Value.ref x, v].toArray }).objs.size = hh.objs.size + 1 := Heap.size_push ..
  have S1 := (S.grow (pushG _ { cls := .type "tuple", data := .seq [Value.ref x, v].toArray })).addO (pushG _ (excNew a.inc hh.objs.size)) (none_size _) (x := .raw (excNew a.inc hh.objs.size)) ⟨_, Heap.get?_push_size _ rfl, .refl _⟩
  have n1 := S.fresh (a := hh.objs.size + 1) (Heap.get?_none_of_le (Nat.le_succ _))
  dsimp only at S1
  rw [ez] at S1
  generalize hh.objs.size + 1 = e at *
  generalize hh.objs.size = tt at *
  have x1 : Ext ρ (upd ρ e (.raw (excNew a.inc tt))) := ext_upd _ n1.1
  refine enter S1 T.fIncInit (r.mk _ _ _).d (binds := [("self", .ref e), ("c3", .ref x), ("base_tree_remaining", v)]) (fun _ _ _ _ _ _ => BindsTo.of_eq rfl) fun L cdv s' S => ?_
  refine xcons (plainObj_wpAny_Assign_Attribute (xAttr (ldL S rfl rfl (gOwn S (x1 _ _ e1) (x1 _ _ e2) (T.kOwn b _ rfl) hl (fun s' S => ldL S rfl rfl ?_) hw))))
  refine excSet0 store_TE X0 (by simp) (by simp) te_no_C S (upd_self ..) rfl (fun c q => nomatch q) rfl fun dn s' hdn hne S => ?_
  have hdn' : ρ dn = none := by rw [upd_ne _ _ hne] at hdn; exact hdn
  refine xcons (plainObj_wpAny_Assign_Attribute (ldL S rfl rfl (ldL S rfl rfl ?_)))
  refine excSet1 store_TE X0 (by simp) (by simp) te_no_btr S (upd_self ..) rfl (fun c q => nomatch q) rfl (by rw [upd_ne _ _ hne, upd_self]) (by decide) fun s' S => ?_
  refine wpAny_execs_nil ⟨rfl, h e _ s' _ ?_ n1.1 n1.2.1 ?_ ⟨tt, dn, rfl⟩ S.forget.back0⟩
  · intro p y hp
    have p1 : p ≠ e := fun q => by rw [q, n1.1] at hp; cases hp
    have p2 : p ≠ dn := fun q => by rw [q, hdn'] at hp; cases hp
    rw [upd_ne _ _ p2, upd_ne _ _ p1, upd_ne _ _ p2, upd_ne _ _ p1]; exact hp
  · rw [upd_ne _ _ (Ne.symm hne), upd_self]
end
end Mine
end
section
open PySem PySem.W PyProof.Rows PySem.Calls
set_option Elab.async false
set_option maxRecDepth 100000
set_option linter.unusedVariables false
namespace Mine
open PySem (Sem Str Value Heap Obj Shared)
section
variable {C : Cx} {a : Adr} {ρ : Wd} {τ σ : Lc} {s : Shared} {A : Around} {E : Value → Shared → Prop} {R : Result → Shared → Prop} {l : List Env}
theorem FrOk.cons {env : Env} {L : Addr} {m : Mp} {τ : Lc} (hk : env.scope.kind = .function) (hf : env.frame = some L) (hm : (L, AObj.fr "frame" m) ∈ τ) (h : FrOk τ l) : FrOk τ (env :: l) := fun e he => by
  rcases List.mem_cons.mp he with rfl | he
  · exact ⟨by rw [hk]; decide, L, m, hf, hm⟩
  · exact h e he
theorem FrOk.own {env : Env} {L : Addr} {m : Mp} (S : St C ρ τ σ s) (e : nth σ 0 = some (L, .fr "frame" m)) (h : FrOk τ l) (hk : env.scope.kind = .function := by rfl) (hf : env.frame = some L := by rfl) : FrOk (σ ++ τ) (env :: l) :=
  FrOk.cons hk hf (List.mem_append_left _ (mem_nth e)) (h.mono fun p hp => List.mem_append_right _ hp)
theorem Rz.mono {ρ' : Wd} {e : Addr} {cls : Value} {tb : Option Value} (R : Rz C ρ τ σ e cls tb s) (h : Ext ρ' ρ) : Rz C ρ' τ σ e cls tb s := by
  obtain ⟨S, T, x, u, v⟩ := R
  have nn : ∀ {p}, ρ p = none → ρ' p = none := fun {p} q => by
    cases w : ρ' p with
    | none => rfl
    | some y => have := h _ _ w; rw [q] at this; cases this
  exact ⟨S.mono h, T, x, ⟨nn u.1, u.2⟩, fun q => ⟨nn (v q).1, (v q).2⟩⟩
theorem raiseUse (T : Text C a) {env : Env} {x : Str} {np pos : Pos} {Q : Flow → Shared → Prop} (S : St C ρ τ σ s) (hh : A.handled = none) (hx : ∀ Q' : Value → Shared → Prop, Q' (.ref a.use) s → wpAny C.M A (eval (.Name x np) env) Q' E s)
    (h : ∀ e s', Rz C ρ τ σ e (.ref a.use) none s' → E (.ref e) s') : wpAny C.M A (exec (.Raise (some (.Name x np)) none pos) env) Q E s := by
  obtain ⟨nm, q, N, bs, sn, sub, ab, col, dd, k0, k1, k2, k3, k5, mN, hC, hN, hno⟩ := T.useX
  obtain ⟨hp, g, d, t, os⟩ := s
  refine raise_class F.excBase_Exception hh (S.amb.x _ _ hC) (ns_amb S.amb hN) (hno _ (by simp)) hx fun h' e hm => ?_
  obtain ⟨tp, he, _, _⟩ := hm.there
  have f := S.fresh hm.new
  exact h e _ ⟨S.grow ⟨hm.keeps, rfl, fun x => x⟩, e, ⟨_, _, he, rfl, rfl, rfl, rfl⟩, ⟨f.1, f.2.1, f.2.2⟩, fun q => by cases q⟩
theorem raiseInc (T : Text C a) {env : Env} {ex : Expr} {pos : Pos} {Q : Flow → Shared → Prop} (hh : A.handled = none)
    (hx : wpAny C.M A (eval ex env) (fun v s₁ => ∃ e y ρ', v = .ref e ∧ St C ρ' τ σ s₁ ∧ ρ' e = some y ∧ IncObj a.inc y ∧ Ext ρ ρ' ∧ ρ e = none ∧ (∀ p, p ∈ σ ++ τ → p.1 ≠ e) ∧ ∀ s', Rz C ρ τ σ e (.ref a.inc) none s' → E (.ref e) s') E s) :
    wpAny C.M A (exec (.Raise (some ex) none pos) env) Q E s := by
  obtain ⟨nm, q, N, bs, sn, sub, ab, col, dd, k0, k1, k2, k3, k5, mN, hC, hN, hno⟩ := T.incX
  refine raise_inst (nm := nm) (q := q) (C := a.inc) (N := N) (bs := bs) (hdct := true) (sn := sn) (sub := sub) (ab := ab) (col := col) (dd := dd) (k0 := k0) (k1 := k1) (k2 := k2) (k3 := k3) (k5 := k5) (newId := "TypeError.__new__") F.excBase_TypeError.hasBase hh (wpAny_mono hx (fun v s₁ h₁ => ?_) fun _ _ e => e)
  obtain ⟨e, y, ρ', rfl, S, ey, ⟨t, d, rfl⟩, x, n1, n2, hE⟩ := h₁
  obtain ⟨o', ho, sx⟩ := S.o ey
  have eo := sx.eq (show Value.ref a.inc ≠ _ from fun q => nomatch q)
  subst eo
  exact ⟨e, _, _, rfl, S.amb.x _ _ hC, ho, rfl, rfl, rfl, hE _ ⟨S.mono x, e, ⟨_, _, ho, rfl, rfl, rfl, rfl⟩, ⟨n1, n2, S.pb ey⟩, fun q => by cases q⟩⟩
theorem guess_ok (T : Text C a) {x dx : Addr} {z : Nat} {m : Mp} {v w : Value} (e1 : ρ x = some (.ins (a.kind false) dx)) (e2 : ρ dx = some (.nsd z m)) (hz : z ≤ 1000) (hl : m "leaf" = some w) (hw : handedIn w = true) (S : St C ρ τ σ s) (r : Rm A 4) (hh : A.handled = none)
    (hA : A.frames = some l) (hF : FrOk (σ ++ τ) l)
    (h : ∀ e y ρ' z' oy s', ExtB [dx] ρ ρ' → ρ' dx = some (.nsd z' (m.put "direct_inconsistency" (.ref y))) → z' ≤ z + 1 → ρ' y = some oy → IncObj a.inc oy → Rz C ρ' τ σ e (.ref a.use) (some .none) s' → R (.error (.ref e)) s') :
    codeAny C.M A (.call (.ref a.c3Guess) ⟨[.ref x, v], []⟩) R s := by
  refine enterE S T.fC3Guess r.d (binds := [("self", .ref x), ("base_tree_remaining", v)]) (fun _ _ _ _ _ _ => BindsTo.of_eq rfl) fun L cdv s' S => ?_
  refine xcons (plainObj_wpAny_Assign_Attribute (Call_ (ldG S (T.glob _ _ rfl) (cwK T.incKeep (ldL S rfl rfl (ldL S rfl rfl ⟨S.amb.x, ?_⟩))))))
  refine callC (mkInc_ok T e1 e2 hl hw S ((r.le (by decide)).deeper _) fun y ρ1 s' oy x1 n1 n2 ey io S => ?_)
  have ndx : y ≠ dx := fun q => by rw [q, e2] at n1; cases n1
  refine ldL S rfl rfl (sAttr S (x1 _ _ e1) (x1 _ _ e2) (T.kSet false _ rfl) hz fun s' S => ?_)
  refine xcons (raiseUse T S hh (fun Q' hq => ldG S (T.glob _ _ rfl) hq) fun e s' Z => ?_)
  refine leave_St (Around.frames_deeper hA) (FrOk.cons rfl rfl (.head _) (hF.mono fun p hp => .tail _ hp)) rfl Z fun s' Z => ?_
  refine h e y _ _ _ s' ?_ (upd_self ..) ?_ ?_ io Z.forget.back
  · exact x1.b.trans (extB_upd _ _ _)
  · split <;> omega
  · rw [upd_ne _ _ ndx]; exact ey
theorem sguess_ok (T : Text C a) {x dx : Addr} {z : Nat} {m : Mp} {v w : Value} (e1 : ρ x = some (.ins (a.kind true) dx)) (e2 : ρ dx = some (.nsd z m)) (hl : m "leaf" = some w) (hw : handedIn w = true) (S : St C ρ τ σ s) (r : Rm A 4) (hh : A.handled = none)
    (hA : A.frames = some l) (hF : FrOk (σ ++ τ) l) (h : ∀ e s', Rz C ρ τ σ e (.ref a.inc) (some .none) s' → R (.error (.ref e)) s') :
    codeAny C.M A (.call (.ref a.scGuess) ⟨[.ref x, v], []⟩) R s := by
  refine enterE S T.fScGuess r.d (binds := [("self", .ref x), ("base_tree_remaining", v)]) (fun _ _ _ _ _ _ => BindsTo.of_eq rfl) fun L cdv s' S => ?_
  refine pk3 (P1 := fun (m0 : Mp) => m0 "self" = some (.ref x)) (P2 := fun (m0 : Mp) => m0 "base_tree_remaining" = some v) (P3 := fun (m0 : Mp) => St C ρ (σ ++ τ) [(L, .fr "frame" m0)] s') _ (rfl) (rfl) (S) fun m0 m1 m2 S => ?_
  refine xcons (raiseInc (τ := σ ++ τ) (σ := [(L, .fr "frame" m0)]) (ρ := ρ) T hh (Call_ (ldG S (T.glob _ _ rfl) (cwK T.incKeep (ldL S rfl m1 (ldL S rfl m2 ⟨S.amb.x, ?_⟩))))))
  refine callC (mkInc_ok T e1 e2 hl hw S ((r.le (by decide)).deeper _) fun y ρ1 s' oy x1 n1 n2 ey io S => ?_)
  refine ⟨y, oy, ρ1, rfl, S, ey, io, x1, n1, n2, fun s' Z => ?_⟩
  refine leave_St (Around.frames_deeper hA) (FrOk.cons rfl rfl (.head _) (hF.mono fun p hp => .tail _ hp)) rfl Z fun s' Z => h y s' Z.forget.back
end
end Mine
end
section
open PySem PySem.W PyProof.Rows PySem.Calls
set_option Elab.async false
set_option maxRecDepth 100000
set_option linter.unusedVariables false
namespace Mine
open PySem (Sem Str Value Heap Obj Shared)
section
variable {C : Cx} {a : Adr} {ρ : Wd} {τ σ : Lc} {s : Shared} {A : Around} {E : Value → Shared → Prop} {R : Result → Shared → Prop} {l : List Env}
theorem chooseNext_ok (T : Text C a) {W : Wo} (O : W.Ok) (N : Nodes ρ a.ic W) {b : Bool} {x dx : Addr} {z : Nat} {m : Mp} {w : Value} (e1 : ρ x = some (.ins (a.kind b) dx)) (e2 : ρ dx = some (.nsd z m)) (hm : KDom m) (hz : z ≤ 1000) (hl : m "leaf" = some w) (hw : handedIn w = true)
    {la : Addr} {ls : List Addr} {rows : List (List Nat)} (h1 : ρ la = some (.list (adrs ls))) (h2 : RowsAt ρ W ls rows)
    (hr : ∀ r, r ∈ rows → r ≠ [] ∧ r.length ≤ Big ∧ ∀ k, k ∈ r → W.live k) (S : St C ρ τ σ s) (r : Rm A 5) (hh : A.handled = none) (hA : A.frames = some l) (hF : FrOk (σ ++ τ) l)
    (hok : ∀ j s', findB rows = some j → St C ρ τ σ s' → R (.ok (.ret (.ref (W.x j)))) s')
    (hU : b = false → findB rows = none → ∀ e y ρ' z' oy s', ExtB [dx] ρ ρ' → ρ' dx = some (.nsd z' (m.put "direct_inconsistency" (.ref y))) → z' ≤ z + 1 → ρ' y = some oy → IncObj a.inc oy → Rz C ρ' τ σ e (.ref a.use) (some .none) s' → R (.error (.ref e)) s')
    (hI : b = true → findB rows = none → ∀ e s', Rz C ρ τ σ e (.ref a.inc) (some .none) s' → R (.error (.ref e)) s') :
    codeAny C.M A (.call (.ref a.chooseNext) ⟨[.ref x, .ref la], []⟩) R s := by
  refine enterE S T.fChooseNext r.d (binds := [("self", .ref x), ("base_tree_remaining", .ref la)]) (fun _ _ _ _ _ _ => BindsTo.of_eq rfl) fun L cdv s' S => ?_
  refine xcons (xAsg (xMeth (ldL S rfl rfl (gMeth S e1 e2 (T.kMeth b _ _ rfl) (hm _ rfl) (cwK T.fFindNext.keep (ldL S rfl rfl ⟨S.amb.x, callC (findNext_ok T O N e1 e2 hm h1 h2 hr S ((r.le (by decide)).deeper _) (.inl hh) fun s' S => stL S rfl fun s' S => ?_)⟩))))))
  cases q : findB rows with
  | some j =>
    rw [q] at S
    refine xcons (wpAny_If (xCmp (ldL S rfl rfl (cNone (wpAny_isNot_other rfl (fun q => nomatch q) (wpAny_truthy_bool ?_))))))
    refine xcons (wpAny_Return_some (ldL S rfl rfl ?_))
    exact hok j s' q S.forget.back0
  | none =>
    rw [q] at S
    refine xcons (wpAny_If (xCmp (ldL S rfl rfl (cNone (wpAny_isNot_self rfl (wpAny_truthy_bool ?_))))))
    refine wpAny_execs_nil (xcons (wpAny_Return_some (xMeth (ldL S rfl rfl ?_))))
    cases b with
    | false =>
      refine gMeth S e1 e2 (T.kMeth false _ _ rfl) (hm _ rfl) (cwK T.fC3Guess.keep (ldL S rfl rfl ⟨S.amb.x, callC (guess_ok T e1 e2 hz hl hw S (r.deeper _) hh (Around.frames_deeper hA) (FrOk.own S rfl hF) fun e y ρ' z' oy s' x1 x2 x3 x4 x5 Z => ?_)⟩))
      refine leave_St (Around.frames_deeper hA) (FrOk.own Z.1 rfl hF) rfl Z fun s' Z => ?_
      exact hU rfl q e y ρ' z' oy s' x1 x2 x3 x4 x5 Z.forget.back
    | true =>
      refine gMeth S e1 e2 (T.kMeth true _ _ rfl) (hm _ rfl) (cwK T.fScGuess.keep (ldL S rfl rfl ⟨S.amb.x, callC (sguess_ok T e1 e2 hl hw S (r.deeper _) hh (Around.frames_deeper hA) (FrOk.own S rfl hF) fun e s' Z => ?_)⟩))
      refine leave_St (Around.frames_deeper hA) (FrOk.own Z.1 rfl hF) rfl Z fun s' Z => ?_
      exact hI rfl q e s' Z.forget.back
end
end Mine
end
section
open PySem
set_option Elab.async false
namespace Mine
open PySem (Sem Str Value Heap Obj Shared)
noncomputable def totL (rows : List (List Nat)) : Nat := (rows.map List.length).sum
noncomputable def mgo : Nat → List (List Nat) → Option Nat → List Nat → Option (List Nat)
  | 0, _, _, _ => none
  | n + 1, rows, ign, acc =>
    if (neRows rows ign).isEmpty then some acc else
      match findB (neRows rows ign) with
      | some j => mgo n (neRows rows ign) (some j) (acc ++ [j])
      | none => none
noncomputable def mergeC (rows : List (List Nat)) : Option (List Nat) := mgo (totL rows + 1) rows none []
theorem totL_cons (r : List Nat) (rows : List (List Nat)) : totL (r :: rows) = r.length + totL rows := by simp [totL]
theorem neRows_cons (r : List Nat) (rows : List (List Nat)) (ign : Option Nat) :
    neRows (r :: rows) ign = if (r.filter fun k => some k != ign).isEmpty then neRows rows ign else (r.filter fun k => some k != ign) :: neRows rows ign := by
  unfold neRows
  rw [List.map_cons, List.filter_cons]
  cases (r.filter fun k => some k != ign).isEmpty <;> rfl
theorem totL_ne (ign : Option Nat) : ∀ (rows : List (List Nat)), totL (neRows rows ign) ≤ totL rows
  | [] => Nat.le_refl _
  | r :: rows => by
    have ih := totL_ne ign rows
    have h := List.length_filter_le (fun k => some k != ign) r
    rw [neRows_cons, totL_cons]
    split
    · omega
    · rw [totL_cons]; omega
theorem totL_lt {j : Nat} : ∀ {rows : List (List Nat)}, (∃ r, r ∈ rows ∧ j ∈ r) → totL (neRows rows (some j)) < totL rows
  | [], h => by obtain ⟨_, h, _⟩ := h; cases h
  | r :: rows, h => by
    have hf := List.length_filter_le (fun k => some k != some j) r
    rw [neRows_cons, totL_cons]
    obtain ⟨r', hr, hj⟩ := h
    rcases List.mem_cons.mp hr with rfl | hr
    · have h1 : (r'.filter fun k => some k != some j).length < r'.length := by
        rcases Nat.lt_or_eq_of_le hf with q | q
        · exact q
        · have := List.filter_eq_self.mp (List.Sublist.eq_of_length List.filter_sublist q) j hj
          simp at this
      have h2 := totL_ne (some j) rows
      split
      · omega
      · rw [totL_cons]; omega
    · have ih := totL_lt (rows := rows) ⟨r', hr, hj⟩
      split
      · omega
      · rw [totL_cons]; omega
theorem findB_mem {rows : List (List Nat)} {j : Nat} (h : findB rows = some j) : ∃ r, r ∈ rows ∧ j ∈ r := by
  have h1 := List.mem_of_find?_eq_some h
  obtain ⟨r, hr, hj⟩ := List.mem_filterMap.mp h1
  exact ⟨r, hr, List.mem_of_mem_head? hj⟩
theorem mem_neRows {rows : List (List Nat)} {ign : Option Nat} {r : List Nat} (h : r ∈ neRows rows ign) : r ≠ [] ∧ ∃ r0, r0 ∈ rows ∧ r.length ≤ r0.length ∧ ∀ k, k ∈ r → k ∈ r0 := by
  obtain ⟨h1, h2⟩ := List.mem_filter.mp h
  obtain ⟨r0, h0, rfl⟩ := List.mem_map.mp h1
  exact ⟨(by intro q; rw [q] at h2; cases h2), r0, h0, List.length_filter_le .., fun k hk => (List.mem_filter.mp hk).1⟩
theorem neRows_len (rows : List (List Nat)) (ign : Option Nat) : (neRows rows ign).length ≤ rows.length := by
  unfold neRows
  exact Nat.le_trans (List.length_filter_le ..) (by rw [List.length_map]; exact Nat.le_refl _)
end Mine
end
section
open PySem PySem.W PyProof.Rows PySem.Calls
set_option Elab.async false
set_option genSizeOf false
set_option genInjectivity false
set_option maxRecDepth 100000
set_option linter.unusedVariables false
set_option maxHeartbeats 2000000
namespace Mine
open PySem (Sem Str Value Heap Obj Shared)
section
variable {C : Cx} {a : Adr} {ρ : Wd} {τ σ : Lc} {s : Shared} {A : Around} {E : Value → Shared → Prop} {R : Result → Shared → Prop} {l : List Env}
theorem KDom.put {m : Mp} (h : KDom m) {x : Str} {v : Value} (hx : kindNames.contains x = true) : KDom (m.put x v) := fun y hy => by
  unfold Mp.put
  rw [if_neg (fun q => by rw [q, hx] at hy; cases hy)]
  exact h y hy
structure MgS where
  m : Mp
  ρ : Wd
  la : Addr
  ls : List Addr
  rows : List (List Nat)
  ign : Option Nat
  acc : List Nat
  n : Nat
noncomputable def RowsOk (W : Wo) (rows : List (List Nat)) : Prop := rows.length ≤ Big ∧ totL rows ≤ Big ∧ ∀ r, r ∈ rows → r.length ≤ Big ∧ ∀ k, k ∈ r → W.live k
theorem RowsOk.ne {W : Wo} {rows : List (List Nat)} (h : RowsOk W rows) (ign : Option Nat) : RowsOk W (neRows rows ign) :=
  ⟨Nat.le_trans (neRows_len ..) h.1, Nat.le_trans (totL_ne ..) h.2.1, fun r hr => let ⟨_, r0, h0, hl, hk⟩ := mem_neRows hr; ⟨Nat.le_trans hl (h.2.2 r0 h0).1, fun k hk' => (h.2.2 r0 h0).2 k (hk k hk')⟩⟩
theorem Nodes.extB {ρ' : Wd} {IC dx : Addr} {W : Wo} {z : Nat} {m : Mp} (N : Nodes ρ IC W) (x : ExtB [dx] ρ ρ') (e : ρ dx = some (.nsd z m)) (hk : m "key" = none) : Nodes ρ' IC W := fun i hi => by
  refine Nodes.el N hi fun d z' m' tk tb a b c f g => ?_
  refine ⟨d, z', m', tk, tb, x _ _ (notin1 fun q => ?_) a, x _ _ (notin1 fun q => ?_) b, c, f, x _ _ (notin1 fun q => ?_) g⟩
  · rw [q, e] at a; cases a
  · rw [q, e] at b; cases b; rw [hk] at c; cases c
  · rw [q, e] at g; cases g
theorem RowsAt.extB {ρ' : Wd} {dx : Addr} {W : Wo} {z : Nat} {m : Mp} : ∀ {ls : List Addr} {rs : List (List Nat)}, RowsAt ρ W ls rs → ExtB [dx] ρ ρ' → ρ dx = some (.nsd z m) → RowsAt ρ' W ls rs
  | [], [], _, _, _ => trivial
  | _ :: ls, _ :: rs, h, x, e => ⟨x _ _ (notin1 fun q => by have := h.1; rw [q, e] at this; cases this) h.1, RowsAt.extB (ls := ls) (rs := rs) h.2 x e⟩
theorem asgAttr {o : Expr} {attr : Str} {pos : Pos} {v : Value} {env : Env} {Q : Unit → Shared → Prop} (h : wpAny C.M A (eval o env) (fun ov s₁ => wpAny C.M A (setAttr ov attr v) Q E s₁) E s) : wpAny C.M A (assign (.Attribute o attr pos) env v) Q E s := fun Γ p hΓ => by
  simp only [assign_Attribute, Sem.wp_bind', Sem.wp_holding, Sem.wp_cmd_standAt, Sem.wp_release]
  exact Sem.wp_mono _ Γ _ (fun ov _ s₂ h₂ => h₂ Γ _ hΓ) (fun _ _ _ h' => h') _ _ (h Γ p hΓ)
theorem catchUse (T : Text C a) {A : Around} {e : Addr} {tb : Option Value} {Q : Bool → Shared → Prop} (Z : Rz C ρ τ σ e (.ref a.use) tb s) (h : Q true s) : wpAny C.M A (excMatches (.ref e) (.ref a.use)) Q E s := by
  obtain ⟨S, _, ⟨oe, vs, he, hc, _⟩, _⟩ := Z
  obtain ⟨nm, q, N, bs, sn, sub, ab, col, dd, k0, k1, k2, k3, k5, mN, hC, hN, hno⟩ := T.useX
  obtain ⟨hp, g, d, t, os⟩ := s
  exact wpAny_excMatches_sub_self (S.amb.x _ _ hC) he hc F.excBase_Exception.hasBase h
theorem catchSelf (T : Text C a) {A : Around} {e : Addr} {tb : Option Value} {Q : Bool → Shared → Prop} (Z : Rz C ρ τ σ e (.ref a.inc) tb s) (h : Q true s) : wpAny C.M A (excMatches (.ref e) (.ref a.inc)) Q E s := by
  obtain ⟨S, _, ⟨oe, vs, he, hc, _⟩, _⟩ := Z
  obtain ⟨nm, q, N, bs, sn, sub, ab, col, dd, k0, k1, k2, k3, k5, mN, hC, hN, hno⟩ := T.incX
  obtain ⟨hp, g, d, t, os⟩ := s
  exact wpAny_excMatches_sub_self (S.amb.x _ _ hC) he hc F.excBase_TypeError.hasBase h
theorem catchInc (T : Text C a) {A : Around} {e : Addr} {tb : Option Value} {Q : Bool → Shared → Prop} (Z : Rz C ρ τ σ e (.ref a.inc) tb s) (h : Q false s) : wpAny C.M A (excMatches (.ref e) (.ref a.use)) Q E s := by
  obtain ⟨S, _, ⟨oe, vs, he, hc, _⟩, _⟩ := Z
  obtain ⟨nm, q, N, bs, sn, sub, ab, col, dd, k0, k1, k2, k3, k5, mN, hC, hN, hno⟩ := T.incX
  obtain ⟨nm', q', N', bs', sn', sub', ab', col', dd', k0', k1', k2', k3', k5', mN', hC', hN', hno'⟩ := T.useX
  have hne : a.inc ≠ a.use := fun q => by
    rw [q, hC'] at hC
    have := Option.some.inj hC
    simp at this
  obtain ⟨hp, g, d, t, os⟩ := s
  refine excMatch_other (S.amb.x _ _ hC) (S.amb.x _ _ hC') he hc F.excBase_Exception.hasBase ?_ h
  simp [Ne.symm hne]
theorem Rm.mark {A : Around} {n : Nat} (r : Rm A n) (v : Option Value) : Rm (A.mark v) n := r
structure MfP (a : Adr) (W : Wo) (x lr : Addr) (ρ1 : Wd) (rows : List (List Nat)) (y : MgS) : Prop where
  f1 : y.m "self" = some (.ref x)
  f2 : y.m "result" = some (.ref lr)
  f3 : y.m "base_tree_remaining" = some (.ref y.la)
  f4 : y.m "base" = some (optRef W y.ign)
  f5 : Ext ρ1 y.ρ
  f6 : y.ρ y.la = some (.list (adrs y.ls))
  f7 : RowsAt y.ρ W y.ls y.rows
  f8 : RowsOk W y.rows
  f9 : (∀ j, y.ign = some j → W.live j)
  f10 : totL (neRows y.rows y.ign) < y.n
  f11 : mgo y.n y.rows y.ign y.acc = mergeC rows
  f12 : y.acc.length + totL (neRows y.rows y.ign) ≤ totL rows
theorem mergeF_ok (T : Text C a) {W : Wo} (O : W.Ok) (N : Nodes ρ a.ic W) {i : Nat} (hi : W.live i) {b : Bool} {x dx : Addr} {z : Nat} {m : Mp} (e1 : ρ x = some (.ins (a.kind b) dx)) (e2 : ρ dx = some (.nsd z m)) (hm : KDom m) (hz : z ≤ 900)
    (hl : m "leaf" = some (.ref (W.x i))) (ho : m "_own_legacy" = none)
    {la : Addr} {ls : List Addr} {rows : List (List Nat)} (hb : m "base_tree" = some (.ref la)) (h1 : ρ la = some (.list (adrs ls))) (h2 : RowsAt ρ W ls rows) (hr : RowsOk W rows)
    (S : St C ρ τ σ s) (r : Rm A 7) (hh : A.handled = none) (hA : A.frames = some l) (hF : FrOk (σ ++ τ) l)
    (hOk : ∀ res lr ρ' z' s', mergeC rows = some res → ExtB [dx] ρ ρ' → ρ' dx = some (.nsd z' (m.put "_mro" (.ref lr))) → z' ≤ z + 1 → St C ρ' τ (σ ++ [(lr, .list (W.refs res))]) s' → R (.ok (.ret (.ref lr))) s')
    (hLeg : b = false → mergeC rows = none → ∀ ll ρ' z' m' y oy s', ExtB [dx] ρ ρ' → ρ' dx = some (.nsd z' m') → z' ≤ z + 5 → KDom m' → (∀ y : Str, y ≠ "_mro" → y ≠ "direct_inconsistency" → y ≠ "_own_legacy" → m' y = m y) →
      m' "direct_inconsistency" = some (.ref y) → ρ' y = some oy → IncObj a.inc oy → St C ρ' τ (σ ++ [(ll, .list (W.refs (keepLast (W.walk i))))]) s' → R (.ok (.ret (.ref ll))) s')
    (hInc : b = true → mergeC rows = none → ∀ e ρ' z' lr s', ExtB [dx] ρ ρ' → ρ' dx = some (.nsd z' (m.put "_mro" (.ref lr))) → z' ≤ z + 1 → Rz C ρ' τ σ e (.ref a.inc) (some .none) s' → R (.error (.ref e)) s') :
    codeAny C.M A (.call (.ref a.mergeF) ⟨[.ref x], []⟩) R s := by
  refine enterE S T.fMergeF r.d (binds := [("self", .ref x)]) (fun _ _ _ _ _ _ => BindsTo.of_eq rfl) fun L cdv s' S => ?_
  have ndx : x ≠ dx := fun q => by rw [q, e2] at e1; cases e1
  refine xcons (wpAny_Assign_two (eList ⟨_, _, _, S, Nat.zero_le _, fun lr s' S => ?_⟩))
  refine wpAny_assign_Name (stL S rfl fun s' S => asgAttr (ldL S rfl rfl (sAttrE S e1 e2 (T.kSet b _ rfl) (Nat.le_trans hz (by decide)) fun ρ1 z1 s' hz1 hρ1 S => ?_)))
  have x1 : ExtB [dx] ρ ρ1 := by rw [hρ1]; exact extB_upd _ _ _
  have f2 : ρ1 dx = some (.nsd z1 (m.put "_mro" (.ref lr))) := by rw [hρ1, upd_self]
  have f1 : ρ1 x = some (.ins (a.kind b) dx) := x1 _ _ (by simpa using ndx) e1
  have hm1 : KDom (m.put "_mro" (.ref lr)) := hm.put rfl
  have nla : la ≠ dx := fun q => by rw [q, e2] at h1; cases h1
  have N1 : Nodes ρ1 a.ic W := N.extB x1 e2 (hm _ rfl)
  have h1' : ρ1 la = some (.list (adrs ls)) := x1 _ _ (by simpa using nla) h1
  have h2' : RowsAt ρ1 W ls rows := h2.extB x1 e2
  refine xcons (xAsg (xAttr (ldL S rfl rfl (gOwn S f1 f2 (T.kOwn b _ rfl) hb fun s' S => stL S rfl fun s' S => ?_))))
  refine xcons (xAsg (cNone (stL S rfl fun s' S => ?_)))
  refine xcons (wpAny_While ?_)
  refine while_st (α := MgS) (τ := σ ++ τ) (E' := fun v s' => b = true ∧ mergeC rows = none ∧ ∃ (e : Addr) (y : MgS) (tb : Value), v = .ref e ∧ Ext ρ1 y.ρ ∧ Rz C y.ρ (σ ++ τ) [(L, .fr "frame" y.m), (lr, .list (W.refs y.acc))] e (.ref a.inc) (some tb) s')
    (fun x => x.ρ) (fun y => [(L, .fr "frame" y.m), (lr, .list (W.refs y.acc))])
    (MfP a W x lr ρ1 rows)
    (fun y => y.n) ?_ ⟨_, ρ1, la, ls, rows, none, [], totL rows + 1⟩ S ?_ ?_
  · rintro v s' ⟨hb', hmc, e, y, tb, rfl, x2, Z⟩
    refine noted_St (Around.frames_deeper hA) (FrOk.own Z.1 rfl hF) rfl Z fun s' Z => ?_
    refine came_St rfl Z fun s' Z => ?_
    refine leave_St (Around.frames_deeper hA) (FrOk.own Z.1 rfl hF) rfl Z fun s' Z => ?_
    exact hInc hb' hmc e y.ρ z1 lr s' (x1.trans x2.b) (x2 _ _ f2) hz1 Z.forget.back
  · exact ⟨rfl, rfl, rfl, rfl, .refl _, h1', h2', hr, fun j q => by (cases q), Nat.lt_succ_of_le (totL_ne ..), rfl, by show 0 + _ ≤ _; rw [Nat.zero_add]; exact totL_ne ..⟩
  · rintro ⟨m', ρ2, la2, ls2, rows2, ign, acc, n⟩ s ⟨k1, k2, k3, k4, x2, g1, g2, hr2, hig, hn, hgo, hacc⟩ S
    dsimp only at k1 k2 k3 k4 x2 g1 g2 hr2 hig hn hgo hacc S
    refine cTrueInt S (by decide) fun s' S => ?_
    rw [if_pos rfl]
    refine genE fun Qb Eb hQb hEb => ?_
    have hT : ∀ (e : Env), Rm (A.deeper e) 6 := fun e => r.deeper e
    refine xcons (xAsg (xMeth (ldL S rfl k1 (gStat S (x2 _ _ f1) (x2 _ _ f2) (T.kNon b) (hm1 _ rfl) fun s' S => cwK T.fNonEmpty.keep (ldL S rfl k3 (ldL S rfl k4 ⟨S.amb.x, callC (nonEmpty_ok T O (N1.ext x2) hig g1 g2 hr2.1 hr2.2.2 S ((hT _).le (by decide)) hh fun D ls3 ρ3 s' x3 g3 S => ?_)⟩))))))
    refine stL S rfl fun s' S => ?_
    have nD := S.none_of_nth 2 rfl
    have S := S.give 2 rfl
    have x4 : Ext ρ3 (upd ρ3 D (.list (adrs ls3))) := ext_upd _ nD
    obtain ⟨ρ4, hρ4, x5, gD, g4, S⟩ : ∃ ρ4, ρ4 = upd ρ3 D (.list (adrs ls3)) ∧ Ext ρ1 ρ4 ∧ ρ4 D = some (.list (adrs ls3)) ∧ RowsAt ρ4 W ls3 (neRows rows2 ign) ∧ St C ρ4 (σ ++ τ) [(L, .fr "frame" (Mp.put m' "base_tree_remaining" (.ref D))), (lr, .list (W.refs acc))] s' :=
      ⟨_, rfl, (x2.trans x3).trans x4, upd_self .., g3.ext x4, S⟩
    have hr3 := hr2.ne ign
    have hls3 : (adrs ls3).length ≤ Big := by rw [List.length_map, g4.len]; exact hr3.1
    refine xcons (wpAny_If (isTrue_not (isTrue_plain (ldL S rfl rfl (tList S (S.o gD) hls3 fun s' S => ?_)))))
    cases n with
    | zero => exact absurd hn (Nat.not_lt_zero _)
    | succ n =>
    cases hem : (neRows rows2 ign).isEmpty with
    | true =>
      have he : (adrs ls3).isEmpty = true := by
        have := g4.len
        rw [List.isEmpty_iff.mp hem] at this
        rw [List.isEmpty_iff, List.length_eq_zero_iff.mp this]; rfl
      rw [he]
      refine xcons (wpAny_Return_some (ldL S rfl k2 ?_))
      have hres : mergeC rows = some acc := by rw [← hgo, mgo, if_pos hem]
      exact hQb _ _ (hOk acc lr ρ4 z1 s' hres (x1.trans x5.b) (x5 _ _ f2) hz1 (St.back (S.sub (List.Sublist.cons _ (.refl _)))))
    | false =>
      have he : (adrs ls3).isEmpty = false := by
        have := g4.len
        cases ls3 with
        | nil => rw [List.length_nil] at this; rw [List.length_eq_zero_iff.mp this.symm] at hem; cases hem
        | cons _ _ => rfl
      rw [he]
      refine wpAny_execs_nil (xcons (wpAny_Try_except (xcons (xAsg (xMeth (ldL S rfl k1 (gMeth S (x5 _ _ f1) (x5 _ _ f2) (T.kMeth b _ _ rfl) (hm1 _ rfl) (cwK T.fChooseNext.keep (ldL S rfl rfl ⟨S.amb.x, ?_⟩)))))))))
      refine callC (chooseNext_ok T O (N1.ext x5) (x5 _ _ f1) (x5 _ _ f2) hm1 (Nat.le_trans hz1 (by ((with_reducible refine oz1 ‹_› ?_); exact rfl))) hl rfl gD g4 (fun r hr' => ⟨(mem_neRows hr').1, hr3.2.2 r hr'⟩) S ((hT _).le (by decide)) hh (Around.frames_deeper hA) (FrOk.own S rfl hF) ?_ ?_ ?_)
      · intro j s' hj S
        have hgo' : mgo n (neRows rows2 ign) (some j) (acc ++ [j]) = mergeC rows := by rw [← hgo, mgo, if_neg (by rw [hem]; decide), hj]
        obtain ⟨row, hrow, hjr⟩ := findB_mem hj
        have hlj : W.live j := (hr3.2.2 row hrow).2 j hjr
        have hlt := totL_lt (rows := neRows rows2 ign) ⟨row, hrow, hjr⟩
        refine stL S rfl fun s' S => wpAny_execs_nil (wpAny_execs_nil ?_)
        refine xcons (wpAny_Expr_any (xMeth (ldL S rfl k2 (gAppend (S.at 1 rfl) (cwB (ldL S rfl rfl (bAppend S 1 rfl ?_ fun s' S => ?_)))))))
        · rw [Wo.refs, List.length_map]; have := hr.2.1; show acc.length ≤ Big; omega
        have er : W.refs acc ++ [Value.ref (W.x j)] = W.refs (acc ++ [j]) := by simp [Wo.refs]
        rw [er] at S
        refine wpAny_execs_nil (hQb _ _ ⟨⟨_, ρ4, D, ls3, neRows rows2 ign, some j, acc ++ [j], n⟩, Nat.lt_succ_self n, ?_, S⟩)
        refine ⟨k1, k2, rfl, rfl, x5, gD, g4, hr3, fun j' q => (by cases q; exact hlj), Nat.lt_of_lt_of_le hlt (Nat.le_of_lt_succ hn), hgo', ?_⟩
        show (acc ++ [j]).length + totL (neRows (neRows rows2 ign) (some j)) ≤ totL rows
        rw [List.length_append, List.length_singleton]; omega
      · intro hb' hj e y ρ' z' oy s' x6 f6 hz6 ey io Z
        have hres : mergeC rows = none := by rw [← hgo, mgo, if_neg (by rw [hem]; decide), hj]
        refine note_St (Around.frames_deeper hA) (FrOk.own Z.1 rfl hF) rfl Z fun s' Z => flight_St (fr := none) Z fun s' Z => ?_
        refine wpAny_handleBy_cons (codeAny_handlers_test (ldG Z.1 (T.glob _ _ rfl) (catchUse T Z ?_))) (fun q => nomatch q)
        refine codeAny_handlers_suite (flight_St (fr := none) Z fun s' Z => ?_)
        obtain ⟨S, ne⟩ := Z.name
        obtain ⟨ρ5, hρ5, x7, ee, S⟩ : ∃ ρ5, ρ5 = upd ρ' e excO ∧ Ext ρ' ρ5 ∧ ρ5 e = some excO ∧ St C ρ5 _ _ s' := ⟨_, rfl, ext_upd _ ne, upd_self .., S⟩
        have y1 : ExtB [dx] ρ1 ρ5 := (x5.b.trans x6).trans x7.b
        have N5 : Nodes ρ5 a.ic W := N1.extB y1 f2 (hm1 _ rfl)
        have i1 : ρ5 x = some (.ins (a.kind b) dx) := y1 _ _ (by simpa using ndx) f1
        have i2 := x7 _ _ f6
        have hd5 : Hd (((A.deeper (envX "C3._merge" (clsF 8 13).scope L a.mergeF cdv (cellsFrom (L + 1) (clsF 8 13).scope.names []))).mark (some (.ref e))).in1) ρ5 := .inr ⟨e, rfl, ee⟩
        have hr5 : Rm (((A.deeper (envX "C3._merge" (clsF 8 13).scope L a.mergeF cdv (cellsFrom (L + 1) (clsF 8 13).scope.names []))).mark (some (.ref e))).in1) 5 := Rm.in1 (Rm.mark (hT _) _)
        refine xcons (plainObj_wpAny_Assign_Attribute (xAttr (ldL S rfl k1 (gProp S i1 i2 (T.kLeg b) fun s' S => ?_))))
        refine legProp_ok T O N5 hi i1 i2 (Nat.le_trans hz6 (by ((with_reducible refine oz10 ‹_› ‹_› ?_); exact rfl))) hl (.inl ho) S (hr5.le (by decide)) hd5 fun l1 ρ6 z6 m6 s' x8 f8 hz8 hm6 hol S => ⟨rfl, ?_⟩
        obtain ⟨t, ht, ht6⟩ := hol
        have j1 : ρ6 x = some (.ins (a.kind b) dx) := x8 _ _ (by simpa using ndx) i1
        refine ldL S rfl k1 (sAttrE S j1 f8 (T.kSet b _ rfl) (by omega) fun ρ7 z7 s' hz7 hρ7 S => ?_)
        have x9 : ExtB [dx] ρ6 ρ7 := by rw [hρ7]; exact extB_upd _ _ _
        have f9 : ρ7 dx = some (.nsd z7 (Mp.put m6 "_mro" (.ref l1))) := by rw [hρ7, upd_self]
        have y2 : ExtB [dx] ρ5 ρ7 := x8.trans x9
        have ndt : t ≠ dx := fun q => by rw [q, f8] at ht6; cases ht6
        have hd7 : Hd (((A.deeper (envX "C3._merge" (clsF 8 13).scope L a.mergeF cdv (cellsFrom (L + 1) (clsF 8 13).scope.names []))).mark (some (.ref e))).in1) ρ7 := .inr ⟨e, rfl, y2 _ _ (by simpa using fun q : e = dx => by rw [q, i2] at ee; cases ee) ee⟩
        have k1' : ρ7 x = some (.ins (a.kind b) dx) := y2 _ _ (by simpa using ndx) i1
        refine xcons (wpAny_Return_some (xAttr (ldL S rfl k1 (gProp S k1' f9 (T.kLeg b) fun s' S => ?_))))
        have hl6 : (Mp.put m6 "_mro" (.ref l1)) "leaf" = some (.ref (W.x i)) := (hm6 "leaf" (by decide)).trans hl
        refine legProp_ok T O (N5.extB y2 i2 (hm1 "key" rfl)) hi k1' f9 (by omega) hl6 (.inr ⟨t, ht, x9 _ _ (by simpa using ndt) ht6⟩) S (hr5.le (by decide)) hd7 fun l2 ρ8 z8 m8 s' x10 f10 hz10 hm8 hol8 S => ⟨rfl, ?_⟩
        have ndy : y ≠ dx := fun q => by obtain ⟨_, _, w⟩ := io; rw [q, f6] at ey; cases ey; cases w
        have same : ∀ y' : Str, y' ≠ "_mro" → y' ≠ "direct_inconsistency" → y' ≠ "_own_legacy" → m8 y' = m y' := fun y' q1 q2 q3 => by
          rw [hm8 y' q3]; unfold Mp.put; rw [if_neg q1, hm6 y' q3]; unfold Mp.put; rw [if_neg q2, if_neg q1]
        refine hQb _ _ (hLeg hb' hres l2 ρ8 z8 m8 y oy s' ?_ f10 (by omega) ?_ same ?_ ?_ io (St.back (S.sub ?_)))
        · exact ((x1.trans y1).trans y2).trans x10
        · intro y' hy'
          rw [same y' (fun q => by rw [q] at hy'; exact absurd hy' (by decide)) (fun q => by rw [q] at hy'; exact absurd hy' (by decide)) (fun q => by rw [q] at hy'; exact absurd hy' (by decide))]
          exact hm y' hy'
        · rw [hm8 _ (by decide)]; unfold Mp.put; rw [if_neg (by decide), hm6 _ (by decide)]; unfold Mp.put; rw [if_pos rfl]
        · exact x10 _ _ (by simpa using ndy) (y2 _ _ (by simpa using ndy) (x7 _ _ ey))
        · exact List.Sublist.cons _ (List.Sublist.cons _ (List.Sublist.cons _ (.refl _)))
      · intro hb' hj e s' Z
        have hres : mergeC rows = none := by rw [← hgo, mgo, if_neg (by rw [hem]; decide), hj]
        refine note_St (Around.frames_deeper hA) (FrOk.own Z.1 rfl hF) rfl Z fun s' Z => flight_St (fr := none) Z fun s' Z => ?_
        refine wpAny_handleBy_cons (codeAny_handlers_test (ldG Z.1 (T.glob _ _ rfl) (catchInc T Z ?_))) (fun q => nomatch q)
        refine wpAny_handleBy_nil (pass_St rfl Z fun s' Z => ?_)
        exact hEb _ _ ⟨hb', hres, e, ⟨_, ρ4, D, ls3, [], none, acc, 0⟩, _, rfl, x5, Z⟩
end
end Mine
end
section
open PySem PySem.W PyProof.Rows PySem.Calls
set_option Elab.async false
set_option maxRecDepth 100000
set_option linter.unusedVariables false
set_option maxHeartbeats 2000000
namespace Mine
open PySem (Sem Str Value Heap Obj Shared)
noncomputable def vOf (b : Bool) (W : Wo) (i : Nat) (rows : List (List Nat)) : Option (List Nat) :=
  match mergeC rows with
  | some r => some r
  | none => if b then none else some (keepLast (W.walk i))
structure RsC (ρ : Wd) (a : Adr) (W : Wo) (b : Bool) (r dr : Addr) (i : Nat) (o : Option (List Nat)) (z : Nat) (m : Mp) : Prop where
  e1 : ρ r = some (.ins (a.kind b) dr)
  e2 : ρ dr = some (.nsd z m)
  hz : z ≤ 40
  hm : KDom m
  hl : m "leaf" = some (.ref (W.x i))
  hw : ∃ w, m "bases_had_inconsistency" = some (.bool w)
  hd : m "direct_inconsistency" = none ∨ ∃ y oy, m "direct_inconsistency" = some (.ref y) ∧ ρ y = some oy ∧ IncObj a.inc oy
  hc : (∃ t xs, o = some xs ∧ xs.length ≤ 100 ∧ m "_mro" = some (.ref t) ∧ (ρ t = some (.tup (W.refs xs)) ∨ ρ t = some (.list (W.refs xs)))) ∨
     (m "_mro" = none ∧ m "_own_legacy" = none ∧ z ≤ 20 ∧ ∃ la ls rows, m "base_tree" = some (.ref la) ∧ ρ la = some (.list (adrs ls)) ∧ RowsAt ρ W ls rows ∧ RowsOk W rows ∧ totL rows ≤ 100 ∧ o = vOf b W i rows)
noncomputable def RsAt (ρ : Wd) (a : Adr) (W : Wo) (b : Bool) (r dr : Addr) (i : Nat) (o : Option (List Nat)) : Prop := ∃ z m, RsC ρ a W b r dr i o z m
theorem mgo_len : ∀ (n : Nat) (rows : List (List Nat)) (ign : Option Nat) (acc res : List Nat), mgo n rows ign acc = some res → res.length ≤ acc.length + totL (neRows rows ign)
  | n + 1, rows, ign, acc, res, h => by
    rw [mgo] at h
    split at h
    · cases h; exact Nat.le_add_right ..
    · cases q : findB (neRows rows ign) with
      | none => rw [q] at h; cases h
      | some j =>
        rw [q] at h
        have := mgo_len n _ _ _ _ h
        have h2 := totL_lt (j := j) (findB_mem q)
        rw [List.length_append, List.length_singleton] at this
        omega
theorem mergeC_len {rows : List (List Nat)} {res : List Nat} (h : mergeC rows = some res) : res.length ≤ totL rows := by
  have := mgo_len _ _ _ _ _ h
  have h2 := totL_ne none rows
  simp at this
  (with_reducible exact Nat.le_trans ‹_› ‹_›)
section
variable {C : Cx} {a : Adr} {ρ : Wd} {τ σ : Lc} {s : Shared} {A : Around} {E : Value → Shared → Prop} {R : Result → Shared → Prop} {l : List Env}
theorem RsAt.ext {ρ' : Wd} {W : Wo} {b : Bool} {r dr : Addr} {i : Nat} {o : Option (List Nat)} (h : RsAt ρ a W b r dr i o) (x : Ext ρ ρ') : RsAt ρ' a W b r dr i o := by
  obtain ⟨z, m, e1, e2, hz, hm, hl, hw, hd, hc⟩ := h
  refine ⟨z, m, x _ _ e1, x _ _ e2, hz, hm, hl, hw, hd.imp id fun ⟨y, oy, p, q, u⟩ => ⟨y, oy, p, x _ _ q, u⟩, ?_⟩
  rcases hc with ⟨t, xs, p, hx, q, u⟩ | ⟨p, q, hz2, la, ls, rows, u, v, w, w2, w3, w4⟩
  · exact .inl ⟨t, xs, p, hx, q, u.imp (x _ _) (x _ _)⟩
  · exact .inr ⟨p, q, hz2, la, ls, rows, u, x _ _ v, w.ext x, w2, w3, w4⟩
theorem RsAt.extB {ρ' : Wd} {W : Wo} {b : Bool} {r dr d' : Addr} {i i' : Nat} {o : Option (List Nat)} {z' : Nat} {m' : Mp} (O : W.Ok) (hi : W.live i) (hi' : W.live i') (h : RsAt ρ a W b r dr i o) (x : ExtB [d'] ρ ρ') (e' : ρ d' = some (.nsd z' m')) (hl' : m' "leaf" = some (.ref (W.x i'))) (hne : i ≠ i') : RsAt ρ' a W b r dr i o := by
  obtain ⟨z, m, e1, e2, hz, hm, hl, hw, hd, hc⟩ := h
  have nd : ∀ {p y}, ρ p = some y → (∀ z m, y ≠ .nsd z m) → p ≠ d' := fun hp hy q => by rw [q, e'] at hp; cases hp; exact hy _ _ rfl
  have ndr : dr ≠ d' := fun q => by
    rw [q, e'] at e2; cases e2; rw [hl] at hl'
    exact hne (O.inj i i' hi hi' (Value.ref.inj (Option.some.inj hl')))
  refine ⟨z, m, x _ _ (notin1 (nd e1 (by intro _ _ w; cases w))) e1, x _ _ (notin1 ndr) e2, hz, hm, hl, hw, hd.imp id fun ⟨y, oy, p, q, u⟩ => ⟨y, oy, p, x _ _ (notin1 (nd q fun _ _ w => by obtain ⟨_, _, v⟩ := u; rw [v] at w; cases w)) q, u⟩, ?_⟩
  rcases hc with ⟨t, xs, p, hx, q, u⟩ | ⟨p, q, hz2, la, ls, rows, u, v, w, w2, w3, w4⟩
  · exact .inl ⟨t, xs, p, hx, q, u.imp (fun v => x _ _ (notin1 (nd v (by intro _ _ w; cases w))) v) fun v => x _ _ (notin1 (nd v (by intro _ _ w; cases w))) v⟩
  · exact .inr ⟨p, q, hz2, la, ls, rows, u, x _ _ (notin1 (nd v (by intro _ _ w; cases w))) v, w.extB x e', w2, w3, w4⟩
theorem keepLast_walk_len {W : Wo} (O : W.Ok) {i : Nat} (hi : W.live i) : (keepLast (W.walk i)).length ≤ 6 :=
  nodup_lt 6 _ (nodup_keepLast _) fun j hj => O.six j (walk_live O _ i hi (Nat.lt_succ_self _) j (mem_keepLast.mp hj))
theorem mro_ok (T : Text C a) {W : Wo} (O : W.Ok) (N : Nodes ρ a.ic W) {i : Nat} (hi : W.live i) {b : Bool} {x dx : Addr} {o : Option (List Nat)} (H : RsAt ρ a W b x dx i o)
    (S : St C ρ τ σ s) (r : Rm A 9) (hh : A.handled = none) (hA : A.frames = some l) (hF : FrOk (σ ++ τ) l)
    (hOk : ∀ xs la ρ' s', o = some xs → ExtB [dx] ρ ρ' → RsAt ρ' a W b x dx i o → St C ρ' τ (σ ++ [(la, .list (W.refs xs))]) s' → R (.ok (.ret (.ref la))) s')
    (hInc : b = true → o = none → ∀ e ρ' s', ExtB [dx] ρ ρ' → Rz C ρ' τ σ e (.ref a.inc) (some .none) s' → R (.error (.ref e)) s') :
    codeAny C.M A (.call (.ref a.mroF) ⟨[.ref x], []⟩) R s := by
  obtain ⟨z, m, e1, e2, hz, hm, hl, hw, hd, hc⟩ := H
  have ndx : x ≠ dx := fun q => by rw [q, e2] at e1; cases e1
  refine enterE S T.fMroF r.d (binds := [("self", .ref x)]) (fun _ _ _ _ _ _ => BindsTo.of_eq rfl) fun L cdv s' S => ?_
  refine pk2 (P1 := fun (mf : Mp) => mf "self" = some (.ref x)) (P2 := fun (mf : Mp) => St C ρ (σ ++ τ) [(L, .fr "frame" mf)] s') _ (rfl) (S) fun mf q1 S => ?_
  rcases hc with ⟨t, xs, ho, hx, ht, hxs⟩ | ⟨hn, hol, hz2, la, ls, rows, hb, h1, h2, hr, hrt, ho⟩
  · -- known
    refine xcons (wpAny_If (xCmp (xAttr (ldL S rfl q1 (gOwn S e1 e2 (T.kOwn b _ rfl) ht fun s' S => cNone (wpAny_is_other rfl (fun q => nomatch q) (wpAny_truthy_bool ?_)))))))
    refine wpAny_execs_nil (xcons (wpAny_Return_some (Call_ (ldB S (T.nog _ rfl) rfl (cwT (xAttr (ldL S rfl q1 (gOwn S e1 e2 (T.kOwn b _ rfl) ht fun s' S => ?_))))))))
    have hlen : (W.refs xs).length ≤ Big := by rw [Wo.refs, List.length_map]; exact Nat.le_trans hx (by decide)
    rcases hxs with hxs | hxs
    · exact bListT S (S.o hxs) hlen fun l2 s' S => hOk xs l2 ρ s' ho (ExtB.refl _ _) ⟨z, m, e1, e2, hz, hm, hl, hw, hd, .inl ⟨t, xs, ho, hx, ht, .inl hxs⟩⟩ (St.back (S.sub (List.Sublist.cons _ (.refl _))))
    · exact xList S (S.o hxs) hlen fun l2 s' S => hOk xs l2 ρ s' ho (ExtB.refl _ _) ⟨z, m, e1, e2, hz, hm, hl, hw, hd, .inl ⟨t, xs, ho, hx, ht, .inr hxs⟩⟩ (St.back (S.sub (List.Sublist.cons _ (.refl _))))
  · -- to be merged
    refine xcons (wpAny_If (xCmp (xAttr (ldL S rfl q1 (gCls S e1 e2 (T.kNone b _ rfl) hn fun s' S => cNone (wpAny_is_self rfl (wpAny_truthy_bool ?_)))))))
    refine xcons (plainObj_wpAny_Assign_Attribute (Call_ (ldB S (T.nog _ rfl) rfl (cwT (xMeth (ldL S rfl q1 (gMeth S e1 e2 (T.kMeth b _ _ rfl) (hm _ rfl) (cwK T.fMergeF.keep ⟨S.amb.x, ?_⟩))))))))
    refine wpAny_mono (Q := fun v s' => ∃ (xs : List Nat) (lr : Addr) (ρ2 : Wd) (z2 : Nat) (m2 : Mp), v = .ref lr ∧ o = some xs ∧ xs.length ≤ 100 ∧ ExtB [dx] ρ ρ2 ∧ ρ2 dx = some (.nsd z2 m2) ∧ z2 ≤ 38 ∧ KDom m2 ∧
        (∀ y : Str, y ≠ "_mro" → y ≠ "direct_inconsistency" → y ≠ "_own_legacy" → m2 y = m y) ∧ (m2 "direct_inconsistency" = none ∨ ∃ y oy, m2 "direct_inconsistency" = some (.ref y) ∧ ρ2 y = some oy ∧ IncObj a.inc oy) ∧
        St C ρ2 (σ ++ τ) [(L, .fr "frame" mf), (lr, .list (W.refs xs))] s') (callC ?_) (fun v s' h => ?_) fun _ _ e => e
    · refine mergeF_ok T O N hi e1 e2 hm (by ((with_reducible refine oz2 ‹_› ?_); exact rfl)) hl hol hb h1 h2 hr S ((r.deeper _).le (by decide)) hh (Around.frames_deeper hA) (FrOk.own S rfl hF) ?_ ?_ ?_
      · intro res lr ρ2 z2 s' hres x2 f2 hz2 S
        refine ⟨res, lr, ρ2, z2, _, rfl, ?_, Nat.le_trans (mergeC_len hres) hrt, x2, f2, by ((with_reducible refine oz9 ‹_› ‹_› ?_); exact rfl), hm.put rfl, fun y q1 _ _ => if_neg q1, ?_, S⟩
        · rw [ho]; unfold vOf; rw [hres]
        · rcases hd with hd | ⟨y, oy, p, q, u⟩
          · exact .inl hd
          · refine .inr ⟨y, oy, p, x2 _ _ (notin1 fun w => ?_) q, u⟩
            obtain ⟨_, _, v⟩ := u
            rw [w, e2] at q; cases q; cases v
      · intro hb' hres ll ρ2 z2 m2 y oy s' x2 f2 hz2 hm2 same hd2 ey io S
        refine ⟨keepLast (W.walk i), ll, ρ2, z2, m2, rfl, ?_, Nat.le_trans (keepLast_walk_len O hi) (by decide), x2, f2, by ((with_reducible refine oz9 ‹_› ‹_› ?_); exact rfl), hm2, same, .inr ⟨y, oy, hd2, ey, io⟩, S⟩
        rw [ho]; unfold vOf; rw [hres, hb']; rfl
      · intro hb' hres e ρ2 z2 lr s' x2 f2 hz2 Z
        refine leave_St (Around.frames_deeper hA) (FrOk.own Z.1 rfl hF) rfl Z fun s' Z => ?_
        refine hInc hb' ?_ e ρ2 s' x2 Z.forget.back
        rw [ho]; unfold vOf; rw [hres, hb']; rfl
    · obtain ⟨xs, lr, ρ2, z2, m2, rfl, hox, hxl, x2, f2, hz2, hm2, same, hd2, S⟩ := h
      have hlen : (W.refs xs).length ≤ Big := by rw [Wo.refs, List.length_map]; exact Nat.le_trans hxl (by decide)
      refine xTup S (S.at 1 rfl) hlen fun t s' S => ?_
      have S1 := S.give 2 rfl
      have nt := S.none_of_nth 2 rfl
      obtain ⟨ρ3, x3, ft, S1⟩ : ∃ ρ3, Ext ρ2 ρ3 ∧ ρ3 t = some (.tup (W.refs xs)) ∧ St C ρ3 (σ ++ τ) [(L, .fr "frame" mf), (lr, .list (W.refs xs))] s' := ⟨_, ext_upd _ nt, upd_self .., S1⟩
      have i1 : ρ3 x = some (.ins (a.kind b) dx) := x3 _ _ (x2 _ _ (notin1 ndx) e1)
      refine ldL S rfl q1 (sAttrE S1 i1 (x3 _ _ f2) (T.kSet b _ rfl) (by ((with_reducible refine oz2 ‹_› ?_); exact rfl)) fun ρ4 z4 s' hz4 hρ4 S => ?_)
      have x4 : ExtB [dx] ρ3 ρ4 := by rw [hρ4]; exact extB_upd _ _ _
      have f4 : ρ4 dx = some (.nsd z4 (Mp.put m2 "_mro" (.ref t))) := by rw [hρ4, upd_self]
      have ntd : t ≠ dx := fun q => by rw [q, x3 _ _ f2] at ft; cases ft
      have ft4 := x4 _ _ (notin1 ntd) ft
      have i4 := x4 _ _ (notin1 ndx) i1
      refine wpAny_execs_nil (xcons (wpAny_Return_some (Call_ (ldB S (T.nog _ rfl) rfl (cwT (xAttr (ldL S rfl q1 (gOwn S i4 f4 (T.kOwn b _ rfl) (if_pos rfl) fun s' S => bListT S (S.o ft4) hlen fun l2 s' S => ?_))))))))
      refine hOk xs l2 ρ4 s' hox ((x2.trans x3.b).trans x4) ⟨z4, _, i4, f4, by ((with_reducible refine oz9 ‹_› ‹_› ?_); exact rfl), hm2.put rfl, ?_, ?_, ?_, .inl ⟨t, xs, hox, hxl, if_pos rfl, .inl ft4⟩⟩ (St.back (S.sub (List.Sublist.cons _ (List.Sublist.cons _ (.refl _)))))
      · unfold Mp.put; rw [if_neg (by decide), same _ (by decide) (by decide) (by decide)]; exact hl
      · unfold Mp.put; rw [if_neg (by decide), same _ (by decide) (by decide) (by decide)]; exact hw
      · unfold Mp.put; rw [if_neg (by decide)]
        refine hd2.imp id fun ⟨y, oy, p, q, u⟩ => ⟨y, oy, p, x4 _ _ (notin1 fun w => ?_) (x3 _ _ q), u⟩
        obtain ⟨_, _, v⟩ := u
        rw [w, f2] at q; cases q; cases v
end
end Mine
end
section
open PySem PySem.W PyProof.Rows PySem.Calls
set_option Elab.async false
set_option maxRecDepth 100000
set_option linter.unusedVariables false
set_option linter.unusedSimpArgs false
namespace Mine
open PySem (Sem Str Value Heap Obj Shared)
inductive FnAtC (K : Frag) (f : Addr) (qual : Str) (F : FnT) (dV cdv : Value) : Prop
  | mk (fo : Obj) (kV doc pm : Value) (an : Option Addr) (ct : Value) (h1 : K.lookup f = some fo) (h2 : fo.data = .func (fnX F.name qual F.params F.body F.scope [] dV kV doc pm an cdv ct)) (h3 : codeIn K cdv qual = true) : FnAtC K f qual F dV cdv
structure TabOf (C : Cx) (c P : Addr) (p : Pos) : Prop where
  who : (c = C.c1 ∧ P = C.P1 ∧ p = C.p1) ∨ (c = C.c2 ∧ P = C.P2 ∧ p = C.p2)
  code : C.hb.IsCode c P #[]
structure BMd (C : Cx) : Prop where
  it : ∃ bm ob, C.mg "__builtins__" = some (.ref bm) ∧ bm ≠ builtinsNs ∧ C.hb.get? bm = some ob ∧ ob.cls = .type "module" ∧ ob.dict = some builtinsNs ∧ ob.data = .plain
section
variable {C : Cx} {h h' : Heap} {c P : Addr} {p : Pos}
theorem TabOf.tab (T : TabOf C c P p) (A : Amb C h) : Tab h c P p := by
  rcases T.who with ⟨rfl, rfl, rfl⟩ | ⟨rfl, rfl, rfl⟩
  · exact A.t1
  · exact A.t2
theorem notTab {c : Addr} (O : C.Ok) (o : Obj) (e : C.hb.get? c = some o) (n : o.cls ≠ .none) : c ≠ C.P1 ∧ c ≠ C.P2 :=
  ⟨fun q => by rw [q, O.t1.2] at e; cases e; exact n rfl, fun q => by rw [q, O.t2.2] at e; cases e; exact n rfl⟩
theorem code_notTab (O : C.Ok) : (C.c1 ≠ C.P1 ∧ C.c1 ≠ C.P2) ∧ C.c2 ≠ C.P1 ∧ C.c2 ≠ C.P2 := by
  obtain ⟨⟨o1, _, e1, k1, _⟩, _⟩ := O.t1
  obtain ⟨⟨o2, _, e2, k2, _⟩, _⟩ := O.t2
  exact ⟨notTab O o1 e1 (by rw [k1]; decide), notTab O o2 e2 (by rw [k2]; decide)⟩
theorem TabOf.now (T : TabOf C c P p) (A : Amb C h) : ∃ ps, h.IsCode c P ps ∧ h.TableAt c P ps ∧ (ps = #[] ∨ ∃ c', ps = #[rawInt p.line, rawInt p.col, .ref c']) := by
  obtain ⟨o, vs, file, tf, flags, tg, inF, text, tt, op, ho, hd, h11, h2, h7, h9, h10, hop, hpd, htr, hne⟩ := T.code
  have cn := code_notTab A.ok
  have hc : c ≠ C.P1 ∧ c ≠ C.P2 := by
    rcases T.who with ⟨q, _, _⟩ | ⟨q, _, _⟩
    · rw [q]; exact cn.1
    · rw [q]; exact cn.2
  have hc' := A.old c o ho hc.1 hc.2
  rcases T.tab A with t | ⟨c', t⟩
  · exact ⟨_, ⟨o, vs, file, tf, flags, tg, inF, text, tt, _, hc', hd, h11, h2, h7, h9, h10, t.2, rfl, trivial, hne⟩, t, .inl rfl⟩
  · exact ⟨_, ⟨o, vs, file, tf, flags, tg, inF, text, tt, _, hc', hd, h11, h2, h7, h9, h10, t.2, rfl, by simp [TriplesOk, rawInt], hne⟩, t, .inr ⟨c', rfl⟩⟩
theorem TabOf.pb (T : TabOf C c P p) : C.hb.get? P ≠ none := by
  obtain ⟨o, vs, file, tf, flags, tg, inF, text, tt, op, ho, hd, h11, h2, h7, h9, h10, hop, hpd, htr, hne⟩ := T.code
  rw [hop]; exact fun z => nomatch z
theorem TabOf.grow (T : TabOf C c P p) (A : Amb C h) {c' : Addr} (x : Heap.ExtBut P h h') (t : h'.TableAt c P #[rawInt p.line, rawInt p.col, .ref c']) : Amb C h' := by
  have cn := code_notTab A.ok
  rcases T.who with ⟨rfl, rfl, rfl⟩ | ⟨rfl, rfl, rfl⟩
  · exact ⟨A.ok, fun b o e n1 n2 => x b o n1 (A.old b o e n1 n2), .inr ⟨c', t⟩, A.t2.imp (fun t => t.extBut x cn.2.1 (Ne.symm A.ok.ne)) fun ⟨c', t⟩ => ⟨c', t.extBut x cn.2.1 (Ne.symm A.ok.ne)⟩⟩
  · exact ⟨A.ok, fun b o e n1 n2 => x b o n2 (A.old b o e n1 n2), A.t1.imp (fun t => t.extBut x cn.1.2 A.ok.ne) fun ⟨c', t⟩ => ⟨c', t.extBut x cn.1.2 A.ok.ne⟩, .inr ⟨c', t⟩⟩
end
section
variable {C : Cx} {ρ : Wd} {τ σ : Lc} {s : Shared} {A : Around} {E : Value → Shared → Prop} {R : Result → Shared → Prop} {c P : Addr} {p : Pos}
theorem St.extN {D : List Addr} {s' : Shared} (S : St C ρ τ σ s) (am : Amb C s'.heap) (os : s'.os = s.os) (g : AllBare s'.gens) (k : Kp D s.heap s'.heap) (n1 : ∀ b x, ρ b = some x → b ∉ D) (n2 : ∀ q, q ∈ σ ++ τ → q.1 ∉ D) : St C ρ τ σ s' :=
  ⟨am, os.trans S.os, g, fun b z hz => ⟨(S.out b z hz).1.kp k (n1 b z hz), (S.out b z hz).2⟩, fun q hq => ⟨(S.loc q hq).1.kp k (n2 q hq), (S.loc q hq).2⟩, S.nd⟩
theorem St.growTab (S : St C ρ τ σ s) (T : TabOf C c P p) {h' : Heap} {tk : Nat} {c' : Addr} (x : Heap.ExtBut P s.heap h') (t : h'.TableAt c P #[rawInt p.line, rawInt p.col, .ref c']) : St C ρ τ σ { s with heap := h', toks := tk } :=
  S.extN (s' := { s with heap := h', toks := tk }) (T.grow S.amb x t) rfl S.gens (Kp.of_ext x) (fun b z hz => notin1 fun q => by
    rcases (S.out b z hz).2 with e | ⟨xs, rfl⟩
    · exact T.pb (q ▸ e)
    · obtain ⟨o, ho, hc, _⟩ := S.o hz
      rcases T.tab S.amb with t | ⟨c', t⟩
      · rw [q, t.2] at ho; cases ho; cases hc
      · rw [q, t.2] at ho; cases ho; cases hc) fun q hq => notin1 fun e => T.pb (e ▸ (S.loc q hq).2.1)
theorem genCode_St {env : Env} {qn : Str} {scope : Scope} {Q : Value → Shared → Prop} (S : St C ρ τ σ s) (T : TabOf C c P p) (hc : env.code = .ref c)
    (h : ∀ code s', St C ρ τ σ s' → s.heap.objs.size ≤ s'.heap.objs.size → Heap.ExtBut P s.heap s'.heap → Q code s') : wpAny C.M A (genexprCode env p qn scope) Q E s := by
  obtain ⟨ps, hok, tab, hps⟩ := T.now S.amb
  rcases hps with rfl | ⟨c', rfl⟩
  · exact wpAny_genexprCodeX hc hok tab rfl fun c' h' tk x h1 h2 _ _ t _ => h _ _ (S.growTab T x t) (by show s.heap.objs.size ≤ h'.objs.size; omega) x
  · exact wpAny_genexprCode_hit hc hok (c' := .ref c') (by simp [codeAmong, rawInt]) (h _ _ S (Nat.le_refl _) (Heap.ExtBut.refl _ _))
theorem bFor_St {Q : Addr → Shared → Prop} {running : Addr} (S : St C ρ τ σ s) (B : BMd C) (h : Q builtinsNs s) : wpAny C.M A (builtinsFor mainGlobals running) Q E s := by
  obtain ⟨bm, ob, e1, n, e2, q1, q2, q3⟩ := B.it
  have nt := notTab S.amb.ok ob e2 (by rw [q1]; decide)
  exact wpAny_builtinsFor S.amb.g e1 n (S.amb.old _ _ e2 nt.1 nt.2) q1 q2 q3 h
end
end Mine
end
section
open PySem PySem.W PyProof.Rows PySem.Calls
set_option Elab.async false
set_option maxRecDepth 100000
set_option linter.unusedVariables false
set_option linter.unusedSimpArgs false
namespace Mine
open PySem (Sem Str Value Heap Obj Shared)
theorem passing_all (n : Nat) : passing (fun _ => true) n 0 = List.range n := by
  unfold passing
  rw [List.drop_zero]
  exact List.filter_eq_self.mpr fun _ _ => rfl
structure GenH (C : Cx) (A : Around) (ρ : Wd) (τ σ : Lc) (a : Addr) (n : Nat) (F : Nat → Value → Prop) (s : Shared) : Prop where
  st : St C ρ τ σ s
  it : ∃ fp wr g Z, WalksS C.prog C.w A.in4 a fp wr (GenOnlyQ g) n (fun j y => j < n ∧ F j y) Z ∧ Z 0 s ∧ (∀ b ∈ wr, C.hb.get? b = none ∧ ρ b = none ∧ ∀ q, q ∈ σ ++ τ → q.1 ≠ b)
inductive GxAt (C : Cx) (A : Around) (ρ : Wd) (τ σ : Lc) (P : Addr) (env : Env) (elt : Expr) (scope : Scope) (x : Str) (F : Nat → Value → Prop) (n : Nat) (Q : Value → Shared → Prop) (it : Value) (s₂ : Shared) : Prop
  | mk (I : Addr) (fp : List Addr) (Pi : Nat → Value → Prop) (Z : Nat → Heap → Prop) (y : AObj) (e : it = .ref I) (S : St C ρ ((I, y) :: τ) σ s₂) (W : ∀ A' : Around, A'.handled = none → Walks C.prog C.w A' I fp [I] n Pi Z) (hz : Z 0 s₂.heap)
      (hfp : ∀ b ∈ fp, b ≠ P ∧ s₂.heap.get? b ≠ none)
      (elts : ∀ (L : Addr) (code : Value) (A' : Around) E' i v (s : Shared) m, A'.handled = none → A'.depth ≤ A.depth + 1 → A'.units ≤ A.units + 8 → Pi i v → Amb C s.heap → (∀ b x, ρ b = some x → x.At C s.heap b) → s.heap.Ns L m → m x = some v →
        wpAny C.M A' (eval elt (genEnv scope [] L code builtinsNs env)) (fun y s' => F i y ∧ Keeps s s') E' s)
      (fin : ∀ a s', GenH C A ρ τ σ a n F s' → Q (.ref a) s') : GxAt C A ρ τ σ P env elt scope x F n Q it s₂
section
variable {C : Cx} {ρ : Wd} {τ σ : Lc} {s : Shared} {A : Around} {E : Value → Shared → Prop} {Q : Value → Shared → Prop} {R : Result → Shared → Prop} {c P : Addr}
theorem genexp_St {env : Env} {elt iter : Expr} {x : Str} {px : Pos} {scope : Scope} {pos : Pos} {F : Nat → Value → Prop} {n : Nat}
    (T : TabOf C c P pos) (B : BMd C) (hcode : env.code = .ref c) (hglob : env.globals = mainGlobals) (hh : A.handled = none) (hroom : A.depth < recursionLimit)
    (h : wpAny C.M A (eval iter env) (iterB C.M A E (GxAt C A ρ τ σ P env elt scope x F n Q)) E s)
    (hclos : closureFor scope env = pure [] := by rfl) (hs : ∀ x, genFold iter env x = pure x := by intro _; rfl)
    (hco : scope.isCoroutine = false := by rfl) (hcell : ∀ y ∈ scope.names, y.2 ≠ .cell := by decide) (h0 : scope.names.lookup (".0" : Str) = some NameKind.local := by rfl)
    (hx : scope.names.lookup x = some .local := by rfl) (hkind : scope.kind = .function := by rfl) :
    wpAny C.M A (eval (.GeneratorExp elt [⟨.Name x px, iter, [], 0⟩] scope pos) env) Q E s := by
  refine wpAny_GeneratorExp_walksQD hh hco hclos hcell h0 hx hkind hroom (wpAny_mono h (fun xv s₁ h₁ => wpAny_mono h₁ (fun it s₂ h₂ => ?_) fun _ _ e => e) fun _ _ e => e) hs
  obtain ⟨I, fp, Pi, Z, y, rfl, S, W₀, hst, hfp, helt, hQ⟩ := h₂
  refine ⟨S.amb.nl, genCode_St S T hcode fun code s₃ S₃ hsz x3 => ?_⟩
  rw [hglob]
  refine bFor_St S₃ B ?_
  have hI := S₃.loc (I, y) (List.mem_append_right _ (.head _))
  have hIlt : I < s₃.heap.objs.size := by
    cases q : s₃.heap.get? I with
    | none => exact absurd q hI.1.there
    | some o => exact Heap.lt_size q
  have hIP : ∀ b, C.hb.get? b = none → b ≠ P := fun b hb q => T.pb (q ▸ hb)
  have drop : ∀ {s : Shared}, St C ρ ((I, y) :: τ) σ s → St C ρ τ σ s := fun S => S.sub (List.Sublist.append_left (List.sublist_cons_self ..) _)
  have nI : (∀ q, q ∈ σ ++ τ → q.1 ≠ I) := fun q hq e => by
    have nd := S₃.nd
    have : ((σ ++ (I, y) :: τ)).Perm ((I, y) :: (σ ++ τ)) := List.perm_middle
    have nd := ((this.map (·.1)).nodup_iff).mp nd
    rw [List.map_cons, List.nodup_cons] at nd
    have w : q.1 ∈ (σ ++ τ).map (·.1) := List.mem_map_of_mem hq
    rw [e] at w
    exact nd.1 w
  refine ⟨I, fp, [I], n, Pi, Z, fun _ => true, F, rfl, W₀, ?_, ?_, S₃.amb.nl, ?_, ?_, ?_⟩
  · exact (W₀ A hh).frame _ _ _ hst fun b hb o e => x3 b o (hfp b hb).1 e
  · intro b hb
    cases q : s₂.heap.get? b with
    | none => exact absurd q (hfp b hb).2
    | some o => exact Nat.lt_of_lt_of_le (Heap.lt_size q) hsz
  · intro hm
    rw [List.mem_singleton] at hm
    obtain ⟨mc, ns, _⟩ := S₃.amb.ok.nl
    obtain ⟨o, es, ep, e, _⟩ := ns
    rw [hm, hI.2.1] at e; cases e
  · intro href hhref
    have key : ∀ s₅ : Shared, (∀ b ∈ List.range s₃.heap.objs.size, b ∉ [I] → ∀ o, href.get? b = some o → s₅.heap.get? b = some o) → ∀ b o, b ≠ I → s₃.heap.get? b = some o → s₅.heap.get? b = some o :=
      fun s₅ hk b o hb e => hk b (List.mem_range.mpr (Heap.lt_size e)) (by simpa using hb) o (hhref b o e)
    refine ⟨fun A' E' i v s₅ m₅ _ _ _ _ _ _ _ => ?_, fun A' E' i v s₅ m₅ hA hd hu hP _ hn hm hk => ?_⟩
    · rw [List.forIn_nil]
      exact wpAny_pure ⟨rfl, s₅.heap, s₅.toks, rfl, fun _ _ e => e⟩
    · have kp : Kp [I] s₃.heap s₅.heap := Kp.of_ext fun b o hb e => key s₅ hk b o hb e
      refine helt _ code A' E' i v s₅ m₅ hA hd hu hP (S₃.amb.ext hI.2.1 fun b o hb e => key s₅ hk b o hb e) (fun b z hz => (S₃.out b z hz).1.kp kp (notin1 fun q => ?_)) hn hm
      rw [q, hI.2.2] at hz; cases hz
  · intro a h₅ tk gs hgb hlt hsz5 hk₅ W hat
    have S5 : St C ρ τ σ { s₃ with gens := s₃.gens.push gs, toks := tk, heap := h₅ } := (drop S₃).grow ⟨hk₅, rfl, fun g => g.push hgb⟩
    have : (passing (fun _ => true) n 0) = List.range n := passing_all n
    rw [this, List.length_range] at W
    have e : (fun (j : Nat) (y : Value) => ∃ i, (List.range n)[j]? = some i ∧ F i y) = fun j y => j < n ∧ F j y := by
      funext j y
      refine propext ⟨fun ⟨i, hi, hf⟩ => ?_, fun ⟨hj, hf⟩ => ⟨j, by rw [List.getElem?_range hj], hf⟩⟩
      obtain ⟨hj, e⟩ := List.getElem?_eq_some_iff.mp hi
      rw [List.length_range] at hj
      rw [List.getElem_range] at e
      exact ⟨hj, e ▸ hf⟩
    rw [e] at W
    refine hQ a _ ⟨S5, _, _, _, _, W, hat, ?_⟩
    · intro b hb
      rcases List.mem_cons.mp hb with rfl | hb
      · have f := (drop S₃).fresh (none_size s₃.heap)
        exact ⟨f.2.2, f.1, f.2.1⟩
      · rw [List.mem_singleton] at hb
        subst hb
        exact ⟨hI.2.1, hI.2.2, nI⟩
end
end Mine
end
section
open PySem PySem.W PyProof.Rows PySem.Calls
set_option Elab.async false
set_option maxRecDepth 100000
set_option linter.unusedVariables false
set_option linter.unusedSimpArgs false
namespace Mine
open PySem (Sem Str Value Heap Obj Shared)
section
variable {C : Cx} {ρ : Wd} {τ σ : Lc} {s : Shared} {A : Around} {E : Value → Shared → Prop} {Q : Value → Shared → Prop} {R : Result → Shared → Prop} {a : Addr} {n : Nat} {F : Nat → Value → Prop}
theorem St.moved {s' : Shared} {wr : List Addr} {g : Nat} (S : St C ρ τ σ s) (m : Moved wr (GenOnlyQ g) s s') (h : ∀ b ∈ wr, C.hb.get? b = none ∧ ρ b = none ∧ ∀ q, q ∈ σ ++ τ → q.1 ≠ b) : St C ρ τ σ s' :=
  S.extN (D := wr) (S.amb.keep fun b o hb e => m.heap b o (fun q => hb (h b q).1) e) m.os (S.gens.moved m.gens) (fun b o hb e => ⟨o, m.heap b o hb e, .refl _⟩)
    (fun b x e q => by have := (h b q).2.1; rw [e] at this; cases this) fun q hq hb => (h _ hb).2.2 q hq rfl
theorem any_loop_free {fp wr : List Addr} {G : Array GenState → Array GenState → Prop} {P : Nat → Value → Prop} {Z : Nat → Shared → Prop} {s₀ : Shared} (W : WalksS C.prog C.w A.in1 a fp wr G n P Z)
    (htr : ∀ i v (s : Shared) (Q : Bool → Shared → Prop) (E : Value → Shared → Prop), P i v → Moved wr G s₀ s → (∀ b, Q b s) → wpAny C.M A.in1 (truthy v) Q E s) : ∀ (k i : Nat) (s : Shared), n - i = k → i ≤ n → Z i s → Moved wr G s₀ s →
    (∀ b s', Moved wr G s₀ s' → R (.ok (.ret (.bool b))) s') → codeAny C.M A (.builtin "any.loop" ⟨[.ref a], []⟩) R s := by
  intro k
  induction k with
  | zero =>
    intro i s hk hi hst hm hR
    have hin : i = n := by omega
    subst hin
    refine codeAny_builtin PySem.F.entry_any_loop ?_
    rw [Around.under_plainId PySem.F.plain_any_loop _]
    show wpAny _ A.in1 (pyNext (.ref a) >>= _) _ _ s
    refine wpAny_bind (W.done s _ _ hst fun s' hm' => ?_)
    exact wpAny_bind (wpAny_rule (wpAny_pure (hR _ s' (hm.trans W.gtrans hm'))))
  | succ k ih =>
    intro i s hk hi hst hm hR
    have hlt : i < n := by omega
    refine codeAny_builtin PySem.F.entry_any_loop ?_
    rw [Around.under_plainId PySem.F.plain_any_loop _]
    show wpAny _ A.in1 (pyNext (.ref a) >>= _) _ _ s
    refine wpAny_bind (W.item i s _ _ hlt hst fun v s' hP hst' hm' => ?_)
    have hm2 := hm.trans W.gtrans hm'
    refine wpAny_bind (wpAny_holding (htr i v _ _ _ hP hm2 fun b => ?_))
    refine wpAny_bind (wpAny_letGo ?_)
    cases b with
    | false =>
      simp only [Bool.false_eq_true, if_false]
      exact wpAny_pure ⟨plainId_quiet PySem.F.plain_any_loop _, ih (i + 1) _ (by omega) hlt hst' hm2 hR⟩
    | true =>
      simp only [if_true]
      exact wpAny_bind (wpAny_rule (wpAny_pure (hR _ s' hm2)))
theorem any_free (G : GenH C A ρ τ σ a n F s) (htr : ∀ i v (s : Shared) (Q : Bool → Shared → Prop) (E : Value → Shared → Prop), F i v → St C ρ τ σ s → (∀ b, Q b s) → wpAny C.M A.in1 (truthy v) Q E s)
    (hQ : ∀ b s', St C ρ τ σ s' → Q (.bool b) s') : wpAny C.M A (call (.builtin "any") [.ref a]) Q E s := by
  obtain ⟨S, fp, wr, g, Z, W, hst, hw⟩ := G
  have W := W.in4_1
  refine call_function_tree PySem.F.kind_any PySem.F.plain_any PySem.F.entry_any (PySem.F.args_any1 _) ?_
  unfold Builtin.«any»
  refine wpAny_bind (m := oneArg "any" _) (wpAny_pure ?_)
  refine wpAny_bind (W.self 0 _ _ _ hst ?_)
  exact wpAny_pure ⟨plainId_quiet PySem.F.plain_any_loop _, any_loop_free W (fun i v s Q E hP hm hq => htr i v s Q E hP.2 (S.moved hm hw) hq) n 0 s rfl (Nat.zero_le _) hst (Moved.refl W.grefl) fun b s' hm => hQ b s' (S.moved hm hw)⟩
theorem all_none (G : GenH C A ρ τ σ a 0 F s) (hQ : ∀ s', St C ρ τ σ s' → Q (.bool true) s') : wpAny C.M A (call (.builtin "all") [.ref a]) Q E s := by
  obtain ⟨S, fp, wr, g, Z, W, hst, hw⟩ := G
  have W := W.in4_1
  exact call_all_walkS (W.self 0 _ _ _ hst ⟨a, _, _, _, _, _, _, fun _ => true, rfl, W, hst, fun i v s Q E hP _ => absurd hP.1 (Nat.not_lt_zero _), fun s' hm => hQ s' (S.moved hm hw)⟩)
end
section
variable {C : Cx} {ρ : Wd} {τ σ : Lc} {s : Shared} {A : Around} {R : Result → Shared → Prop} {f : Addr} {qual : Str} {F : FnT} {dV : Value} {args : Args} {binds : List (Str × Value)}
theorem enterCE {cdv : Value} (S : St C ρ τ σ s) (hF : FnAtC C.K f qual F dV cdv) (hr : A.depth < 1000)
    (hb : ∀ kV doc pm an ct, BindsTo s (fnX F.name qual F.params F.body F.scope [] dV kV doc pm an cdv ct) args binds)
    (h : ∀ L s', St C ρ (σ ++ τ) ((L, .fr "frame" (bindL (kOf F.scope) binds fun _ => none)) :: cellsAt L F.scope.names (bindC (kOf F.scope) binds fun _ => none)) s' → 
      wpAny C.M (A.deeper (envX qual F.scope L f cdv (cellsFrom (L + 1) F.scope.names []))) (execs F.body (envX qual F.scope L f cdv (cellsFrom (L + 1) F.scope.names [])))
        (fun fl s' => R (.ok (.ret (flOf fl))) s')
        (leaveE C.M (A.deeper (envX qual F.scope L f cdv (cellsFrom (L + 1) F.scope.names []))) (envX qual F.scope L f cdv (cellsFrom (L + 1) F.scope.names [])) R) s')
    (hkind : (binds.all fun y => F.scope.names.lookup y.1 == some .local || F.scope.names.lookup y.1 == some .cell) = true := by rfl)
    (hnd : ((cellsFrom 0 F.scope.names []).map (·.1)).Nodup := by decide)
    (hco : F.scope.isCoroutine = false := by rfl) (hgen : F.scope.isGenerator = false := by rfl) (hk : F.scope.kind = .function := by rfl) :
    codeAny C.M A (.call (.ref f) args) R s := by
  obtain ⟨fo, kV, doc, pm, an, ct, hf, hd, hc⟩ := hF
  have X := S.amb.x
  refine call_c hr (X _ _ hf) hd S.amb.nl (codeRec_of X hc) (hb kV doc pm an ct) hkind (fun L h₁ tk hL i => ?_) hco hgen hk
  have g : Grow s { s with heap := h₁, toks := tk } := ⟨i.keep, rfl, fun x => x⟩
  have fresh : ∀ b, L ≤ b → s.heap.get? b = none := fun b hb => Heap.get?_none_of_le (by omega)
  have S1 := S.into
  refine h L _ ?_
  have base : ∀ (cs : List (Str × Addr)), (∀ p, p ∈ cs → p ∈ cellsFrom (L + 1) F.scope.names []) → cs.Pairwise (fun x y => x.2 ≠ y.2) →
      St C ρ (σ ++ τ) (cs.map fun p => (p.2, AObj.cell (bindC (kOf F.scope) binds (fun _ => none) p.1))) { s with heap := h₁, toks := tk } := by
    intro cs
    induction cs with
    | nil => intro _ _; exact S1.grow g
    | cons p cs ih =>
      intro hm hp
      rw [List.pairwise_cons] at hp
      have T := ih (fun q hq => hm q (.tail _ hq)) hp.2
      have lk : (cellsFrom (L + 1) F.scope.names []).lookup p.1 = some p.2 := lookup_of_mem_nodup (cellsFrom_names F.scope.names 0 (L + 1) [] [] rfl ▸ hnd) (hm p (.head _))
      have ap := i.above p.1 p.2 (hm p (.head _))
      have fr := S.fresh (fresh p.2 (Nat.le_of_lt ap))
      refine ⟨T.amb, T.os, T.gens, T.out, fun q hq => ?_, ?_⟩
      · rcases List.mem_cons.mp hq with rfl | hq
        · exact ⟨i.cell _ _ lk, fr.2.2, fr.1⟩
        · exact T.loc q hq
      · show ((_ :: (_ ++ (σ ++ τ))).map (·.1)).Nodup
        rw [List.map_cons, List.nodup_cons]
        refine ⟨fun hx => ?_, T.nd⟩
        obtain ⟨q, hq, e⟩ := List.mem_map.mp hx
        rcases List.mem_append.mp hq with hq | hq
        · obtain ⟨r, hr, e'⟩ := List.mem_map.mp hq
          subst e'
          exact hp.1 r hr e.symm
        · exact fr.2.1 q hq e
  have T := base (cellsFrom (L + 1) F.scope.names []) (fun _ h => h) i.apart
  have fr := S.fresh (fresh L (Nat.le_refl _))
  refine ⟨T.amb, T.os, T.gens, T.out, fun q hq => ?_, ?_⟩
  · rcases List.mem_cons.mp hq with rfl | hq
    · exact ⟨i.fr, fr.2.2, fr.1⟩
    · exact T.loc q hq
  · show ((_ :: (_ ++ (σ ++ τ))).map (·.1)).Nodup
    rw [List.map_cons, List.nodup_cons]
    refine ⟨fun hx => ?_, T.nd⟩
    obtain ⟨q, hq, e⟩ := List.mem_map.mp hx
    rcases List.mem_append.mp hq with hq | hq
    · obtain ⟨r, hr, e'⟩ := List.mem_map.mp hq
      subst e'
      have := i.above r.1 r.2 hr
      exact Nat.ne_of_gt this e
    · exact fr.2.1 q hq e
end
end Mine
end
section
open PySem PySem.W PyProof.Rows PySem.Calls
set_option Elab.async false
set_option maxRecDepth 100000
set_option linter.unusedVariables false
set_option linter.unusedSimpArgs false
namespace Mine
open PySem (Sem Str Value Heap Obj Shared)
theorem noteFrame_env {e : Value} {env env' : Env} (h : env'.frame = env.frame) : noteFrame e env' = noteFrame e env := by
  unfold noteFrame PySem.frameOf
  rw [h]
theorem noted_env {M : Model} {A : Around} {E : Value → Shared → Prop} {env env' : Env} {e : Value} {s : Shared} (h : env'.frame = env.frame) (x : notedBy M A env E e s) : notedBy M A env' E e s := by
  unfold notedBy at x ⊢
  rw [noteFrame_env h]
  exact x
section
variable {C : Cx} {τ : Lc} {s : Shared} {A : Around} {E : Value → Shared → Prop} {E' : Addr → Value → Shared → Prop} {env : Env} {Q : Value → Shared → Prop}
theorem comp_out {ρ : Wd} {σ : Lc} {l : List Env} {m : Mp} {L e fL : Addr} {cls fl : Value} {scope : Scope} {cl : List (Str × Addr)} {acc : Value} (hA : A.frames = some (env :: l)) (hF : FrOk (((L, .fr "dict" m) :: σ) ++ τ) (env :: l)) (hL : env.frame = some fL)
    (Z : Rz C ρ τ ((L, .fr "dict" m) :: σ) e cls (some fl) s) (h : ∀ fl' s', Rz C ρ τ σ e cls (some fl') s' → E (.ref e) s') :
    notedBy C.M A (compEnvC scope cl L env) (fun e s' => compPost C.M A E none Q acc L (.error e) s') (.ref e) s := by
  refine noted_env (env := env) rfl (noted_St hA hF hL Z fun s' Z => ?_)
  have Z0 := Z
  obtain ⟨S, T, x, u, v⟩ := Z0
  refine ⟨m, NsC.ns (S.at 0 rfl), fun h' hs cenv hc => ?_⟩
  have Z1 : Rz C ρ τ σ e cls (some (rawInt fL)) { s' with heap := h' } := by
    have nL : e ≠ L := fun q => u.2.1 (L, .fr "dict" m) (.head _) q.symm
    have nT : T ≠ L := fun q => (v rfl).2.1 (L, .fr "dict" m) (.head _) q.symm
    refine ⟨S.goneL (.of (n := s'.toks) hs), T, ?_, ⟨u.1, fun p hp => u.2.1 p (.tail _ hp), u.2.2⟩, fun q => ⟨(v q).1, fun p hp => (v q).2.1 p (.tail _ hp), (v q).2.2⟩⟩
    obtain ⟨oe, vs, he, h1, h2, h3, h4, h5, oT, ts, hT, h6, h7⟩ := x
    exact ⟨oe, vs, hs.extBut _ _ nL he, h1, h2, h3, h4, h5, oT, ts, hs.extBut _ _ nT hT, h6, h7⟩
  unfold PySem.passOn
  have Z2 := Z1
  obtain ⟨S, T, ⟨oe, vs, he, _, hd, _, h1, _⟩, _⟩ := Z2
  refine wpAny_bind (wpAny_field he hd h1 ?_)
  rw [if_neg (by simp)]
  exact wpAny_bind (flight_St Z1 fun s' Z => wpAny_throw (h _ s' Z))
theorem listComp_stE {α : Type} {elt iter : Expr} {x : Str} {px : Pos} {ifs : List Expr} {scope : Scope} {pos : Pos} {cl : List (Str × Addr)} (ρ : α → Wd) (σ : α → Lc) (P : Nat → α → List Value → Prop)
    (hclos : closureFor scope env = pure cl)
    (hnames : (scope.names.all fun y => (y.2 != .local || scope.names.lookup y.1 == some .local) && y.2 != .cell) = true) (hx : scope.names.lookup x = some .local)
    (hE : ∀ L e s', E' L e s' → notedBy C.M A (compEnvC scope cl L env) (fun e s' => compPost C.M A E none Q (.ref 0) L (.error e) s') e s')
    (h : wpAny C.M A (eval iter env) (iterB C.M A E (LcAt C A env elt ifs scope cl ρ σ P τ x Q E')) E s)
    (hk : scope.kind = .function := by rfl)
    (hs : ∀ x, foldedSetIterable iter env x = pure x := by intro _; rfl) :
    wpAny C.M A (eval (.ListComp elt [⟨.Name x px, iter, ifs, 0⟩] scope pos) env) Q E s :=
  comp_stE ρ σ P hclos hnames hx hE (wpAny_mono h (fun _ _ h₁ => wpAny_mono h₁ (fun _ _ h₂ => h₂.lp) fun _ _ e => e) fun _ _ e => e) hk hs
end
end Mine
end
section
open PySem PySem.W PyProof.Rows PySem.Calls
set_option Elab.async false
set_option maxRecDepth 100000
set_option linter.unusedVariables false
set_option linter.unusedSimpArgs false
namespace Mine
open PySem (Sem Str Value Heap Obj Shared)
theorem te_no_bool : typeLookup (.type "TypeError") "__bool__" = pure none := by rw [typeLookup_type, builtinLookup_eq_fast]; kernel_rfl
theorem te_no_len : typeLookup (.type "TypeError") "__len__" = pure none := by rw [typeLookup_type, builtinLookup_eq_fast]; kernel_rfl
noncomputable def c3Pos : Pos := ⟨67, 43, 67, 94⟩
structure TextR (C : Cx) (a : Adr) : Prop where
  incY : ExcCls C a.inc "TypeError.__new__" [.type "TypeError", .type "Exception", .type "BaseException", .type "object"] ["__bool__", "__len__"]
  b : BMd C
  c3Tab : TabOf C C.c2 C.P2 c3Pos
  c3Code : FnAtC C.K a.c3Init "C3.__init__" (clsF 8 4) .none (.ref C.c2)
section
variable {C : Cx} {a : Adr} {ρ : Wd} {τ σ : Lc} {s : Shared} {A : Around} {E : Value → Shared → Prop}
theorem truthy_inc (am : Amb C s.heap) (X : ExcCls C a.inc "TypeError.__new__" [.type "TypeError", .type "Exception", .type "BaseException", .type "object"] ["__bool__", "__len__"]) {e : Addr} {o : Obj} {Q : Bool → Shared → Prop}
    (he : s.heap.get? e = some o) (hc : o.cls = .ref a.inc) (h : Q true s) : wpAny C.M A (truthy (.ref e)) Q E s := by
  obtain ⟨nm, q, N, bs, sn, sub, ab, col, dd, k0, k1, k2, k3, k5, mN, hC, hN, hno⟩ := X
  have hC := am.x _ _ hC
  have hn := ns_amb am hN
  have h1 := hno "__bool__" (by simp)
  have h2 := hno "__len__" (by simp)
  obtain ⟨hp, g, d, t, os⟩ := s
  have SF := store_TE
  unfold truthy callSpecial? specialOf
  repeat (any_goals (first | assumption | (with_reducible refine wpAny_loadPart_at he ?_; rw [hc]) | (with_reducible refine wpAny_typeLookup_exc hC hn SF.mro te_no_bool ?_; rw [h1]) | (with_reducible refine wpAny_typeLookup_exc hC hn SF.mro te_no_len ?_; rw [h2]) | wp_step))
noncomputable def HadV (ρ : Wd) (a : Adr) (v : Value) : Prop := v = .none ∨ (∃ b, v = .bool b) ∨ ∃ e y, v = .ref e ∧ ρ e = some y ∧ IncObj a.inc y
theorem IncObj.here {h : Heap} {e : Addr} {y : AObj} (i : IncObj a.inc y) (t : y.At C h e) : ∃ o, h.get? e = some o ∧ o.cls = .ref a.inc := by
  obtain ⟨t', d, rfl⟩ := i
  obtain ⟨o, e1, sx⟩ := t
  exact ⟨o, e1, sx.1.trans rfl⟩
theorem had_ok (T : Text C a) (TR : TextR C a) (am : Amb C s.heap) (here : ∀ b x, ρ b = some x → x.At C s.heap b) {b : Bool} {x dx : Addr} {z : Nat} {m : Mp} {expr : Bool}
    (e1 : ρ x = some (.ins (a.kind b) dx)) (e2 : ρ dx = some (.nsd z m)) (hd : m "direct_inconsistency" = none ∨ ∃ y oy, m "direct_inconsistency" = some (.ref y) ∧ ρ y = some oy ∧ IncObj a.inc oy)
    (hw : ∃ w, m "bases_had_inconsistency" = some (.bool w)) (hr : A.depth < 1000) : wpAny C.M A (getAttr (.ref x) "had_inconsistency" expr) (fun y s' => HadV ρ a y ∧ Keeps s s') E s := by
  have I : Ins z s.heap x (a.kind b) dx m := ⟨here _ _ e1, here _ _ e2⟩
  refine getProp am I (T.kHad b) ?_
  obtain ⟨fo, kV, doc, pm, an, cdv, ct, hf, hdt, hc⟩ := T.fHadInc
  refine call_c (binds := [("self", .ref x)]) hr (am.x _ _ hf) hdt am.nl (codeRec_of am.x hc) (BindsTo.of_eq rfl) rfl (fun L h₁ tk hL i => ?_) rfl rfl rfl
  have kp : Kp [] s.heap h₁ := Kp.of_keep i.keep
  have am1 : Amb C h₁ := am.all i.keep
  have I1 : Ins z h₁ x (a.kind b) dx m := kp_ins I kp notin0 notin0
  have selfL : ∀ {tk : Nat} {A' : Around} {Q : Value → Shared → Prop} {E' : Value → Shared → Prop} {pos : Pos}, Q (.ref x) { s with heap := h₁, toks := tk } →
      wpAny C.M A' (eval (.Name "self" pos) (envX "C3.had_inconsistency" (clsF 8 6).scope L a.hadInc cdv (cellsFrom (L + 1) (clsF 8 6).scope.names []))) Q E' { s with heap := h₁, toks := tk } :=
    fun h => wpAny_Name (wpAny_loadName_local rfl rfl (NsC.ns i.fr) rfl h) rfl
  obtain ⟨w, hw⟩ := hw
  refine xcons (wpAny_Return_some (BoolOp_or (xAttr (selfL ?_))))
  have back : ∀ {v : Value} {tk : Nat}, HadV ρ a v → handedIn v = true → wpAny C.M A (handedOut v) (fun y s' => HadV ρ a y ∧ Keeps s s') E { s with heap := h₁, toks := tk } :=
    fun hv hh => handed_on hh ⟨hv, h₁, _, rfl, i.keep⟩
  rcases hd with hd | ⟨y, oy, hd, ey, iy⟩
  · refine getCls (s := { s with heap := h₁, toks := tk }) am1 I1 (T.kFalse b) hd (wpAny_truthy_bool ?_)
    rw [if_neg Bool.false_ne_true]
    refine BoolOp_one (xAttr (selfL (getOwn (s := { s with heap := h₁, toks := tk + 1 }) am1 I1 (T.kOwn b _ rfl) hw rfl ?_)))
    exact back (.inr (.inl ⟨w, rfl⟩)) rfl
  · refine getOwn (s := { s with heap := h₁, toks := tk }) am1 I1 (T.kOwn b _ rfl) hd rfl ?_
    obtain ⟨o, ho, hoc⟩ := iy.here (here _ _ ey)
    refine truthy_inc am1 TR.incY (i.keep _ _ ho) hoc ?_
    rw [if_pos rfl]
    exact back (.inr (.inr ⟨y, oy, rfl, ey, iy⟩)) rfl
theorem truthy_had (TR : TextR C a) (S : St C ρ τ σ s) {v : Value} {Q : Bool → Shared → Prop} (h : HadV ρ a v) (hq : ∀ b, Q b s) : wpAny C.M A (truthy v) Q E s := by
  rcases h with rfl | ⟨b, rfl⟩ | ⟨e, y, rfl, ey, iy⟩
  · exact fun _ _ _ => hq false
  · exact wpAny_truthy_bool (hq b)
  · obtain ⟨o, ho, hoc⟩ := iy.here (S.o ey)
    exact truthy_inc S.amb TR.incY ho hoc (hq true)
theorem hadStat_ok (T : Text C a) (am : Amb C s.heap) (here : ∀ b x, ρ b = some x → x.At C s.heap b) {x dx : Addr} {z : Nat} {m : Mp} {expr : Bool}
    (e1 : ρ x = some (.ins a.stat dx)) (e2 : ρ dx = some (.nsd z m)) (hm : m "had_inconsistency" = none) : wpAny C.M A (getAttr (.ref x) "had_inconsistency" expr) (fun y s' => HadV ρ a y ∧ Keeps s s') E s :=
  getCls am ⟨here _ _ e1, here _ _ e2⟩ T.statHad hm ⟨.inl rfl, s.heap, _, rfl, fun _ _ e => e⟩
end
end Mine
end
section
open PySem PySem.W PyProof.Rows PySem.Calls
set_option Elab.async false
set_option maxRecDepth 100000
set_option linter.unusedVariables false
set_option linter.unusedSimpArgs false
namespace Mine
open PySem (Sem Str Value Heap Obj Shared)
section
variable {C : Cx} {ρ : Wd} {τ σ : Lc} {s : Shared} {A : Around} {E : Value → Shared → Prop} {Q : Value → Shared → Prop}
theorem oAddL {l b : Addr} {xs ys : List Value} (S : St C ρ τ σ s) (hl : s.heap.PlainList l xs.toArray) (hb : s.heap.PlainList b ys.toArray) (hz : xs.length + ys.length ≤ Big) (h : ∀ r s', St C ρ τ (σ ++ [(r, .list (xs ++ ys))]) s' → Q (.ref r) s') :
    wpAny C.M A (binaryOp .Add (.ref l) (.ref b)) Q E s := by
  obtain ⟨n1, e1⟩ := hl
  obtain ⟨n2, e2⟩ := hb
  refine P.add_list e1 e2 ?_ (by rw [List.size_toArray, List.size_toArray, sizeLine_eq]; exact Nat.le_trans hz (by decide))
  have := h _ _ (S.newList (xs ++ ys))
  have e : xs.toArray ++ ys.toArray = (xs ++ ys).toArray := by simp
  rw [e]
  exact this
end
structure StatC2 (ρ : Wd) (a : Adr) (W : Wo) (r : Addr) (i : Nat) (o : Option (List Nat)) (d : Addr) (z : Nat) (m : Mp) (t : Addr) (xs : List Nat) : Prop where
  h1 : ρ r = some (.ins a.stat d)
  h2 : ρ d = some (.nsd z m)
  h3 : m "leaf" = some (.ref (W.x i))
  h4 : m "_mro" = some (.ref t)
  h5 : ρ t = some (.tup (W.refs xs))
  h6 : m "had_inconsistency" = none
  h7 : m "mro" = none
  h8 : o = some xs
  h9 : xs.length ≤ 100
noncomputable def StatAt (ρ : Wd) (a : Adr) (W : Wo) (r : Addr) (i : Nat) (o : Option (List Nat)) : Prop := ∃ d z m t xs, StatC2 ρ a W r i o d z m t xs
noncomputable def Res (ρ₀ ρ : Wd) (a : Adr) (W : Wo) (b : Bool) (r : Addr) (i : Nat) (o : Option (List Nat)) : Prop := StatAt ρ a W r i o ∨ ∃ dr, RsAt ρ a W b r dr i o ∧ ρ₀ dr = none
noncomputable def memK (W : Wo) (es : List (Nat × Addr)) : List (Int × Value) := es.map fun p => (W.key p.1, .ref p.2)
theorem St.giveE {C : Cx} {ρ : Wd} {τ σ : Lc} {s : Shared} {b : Addr} {x : AObj} (S : St C ρ τ σ s) (k : Nat) (e : nth σ k = some (b, x)) {G : Prop} (h : ∀ ρ', Ext ρ ρ' → ρ' b = some x → St C ρ' τ (dropN σ k) s → G) : G :=
  h _ (ext_upd _ (S.none_of_nth k e)) (upd_self ..) (S.give k e)
structure Mem (a : Adr) (W : Wo) (b : Bool) (ov : Nat → Option (List Nat)) (ρ₀ ρ : Wd) (md : Addr) (es : List (Nat × Addr)) : Prop where
  ext : Ext ρ₀ ρ
  md0 : ρ₀ md = none
  at_ : ρ md = some (.idict (memK W es))
  nd : (es.map (·.1)).Nodup
  mem : ∀ p, p ∈ es → W.live p.1 ∧ Res ρ₀ ρ a W b p.2 p.1 (ov p.1)
section
variable {a : Adr} {W : Wo} {b : Bool} {ov : Nat → Option (List Nat)} {ρ₀ ρ ρ' : Wd} {md r dr d : Addr} {es : List (Nat × Addr)} {i : Nat} {o : Option (List Nat)}
theorem StatAt.ext (h : StatAt ρ a W r i o) (x : Ext ρ ρ') : StatAt ρ' a W r i o :=
  let ⟨d, z, m, t, xs, h1, h2, h3, h4, h5, q6, q7, q8, q9⟩ := h; ⟨d, z, m, t, xs, x _ _ h1, x _ _ h2, h3, h4, x _ _ h5, q6, q7, q8, q9⟩
theorem StatAt.extB {i' : Nat} {z' : Nat} {m' : Mp} (O : W.Ok) (hi : W.live i) (hi' : W.live i') (h : StatAt ρ a W r i o) (x : ExtB [d] ρ ρ') (e' : ρ d = some (.nsd z' m')) (hl' : m' "leaf" = some (.ref (W.x i'))) (hne : i ≠ i') : StatAt ρ' a W r i o := by
  obtain ⟨d0, z, m, t, xs, h1, h2, h3, h4, h5, q6, q7, q8, q9⟩ := h
  refine ⟨d0, z, m, t, xs, x _ _ (notin1 fun w => ?_) h1, x _ _ (notin1 fun w => ?_) h2, h3, h4, x _ _ (notin1 fun w => ?_) h5, q6, q7, q8, q9⟩
  · rw [w, e'] at h1; cases h1
  · rw [w, e'] at h2; cases h2; rw [h3] at hl'
    exact hne (O.inj i i' hi hi' (Value.ref.inj (Option.some.inj hl')))
  · rw [w, e'] at h5; cases h5
theorem RowsAt.extI {kvs : List (Int × Value)} : ∀ {ls : List Addr} {rs : List (List Nat)}, RowsAt ρ W ls rs → ExtB [d] ρ ρ' → ρ d = some (.idict kvs) → RowsAt ρ' W ls rs
  | [], [], _, _, _ => trivial
  | _ :: ls, _ :: rs, h, x, e => ⟨x _ _ (notin1 fun q => by have := h.1; rw [q, e] at this; cases this) h.1, RowsAt.extI (ls := ls) (rs := rs) h.2 x e⟩
theorem Res.extI {kvs : List (Int × Value)} (h : Res ρ₀ ρ a W b r i o) (x : ExtB [d] ρ ρ') (e : ρ d = some (.idict kvs)) : Res ρ₀ ρ' a W b r i o := by
  have X : ∀ {p y}, ρ p = some y → (∀ k, y ≠ .idict k) → ρ' p = some y := fun {p y} hp hy => x _ _ (notin1 fun q => by rw [q, e] at hp; cases hp; exact hy _ rfl) hp
  rcases h with ⟨d0, z, m, t, xs, h1, h2, h3, h4, h5, q6, q7, q8, q9⟩ | ⟨dr, ⟨z, m, e1, e2, hz, hm, hl, hw, hd, hc⟩, h0⟩
  · exact .inl ⟨d0, z, m, t, xs, X h1 (by intro _ q; cases q), X h2 (by intro _ q; cases q), h3, h4, X h5 (by intro _ q; cases q), q6, q7, q8, q9⟩
  · refine .inr ⟨dr, ⟨z, m, X e1 (by intro _ q; cases q), X e2 (by intro _ q; cases q), hz, hm, hl, hw, hd.imp id fun ⟨y, oy, p, q, u⟩ => ⟨y, oy, p, X q (by obtain ⟨_, _, w⟩ := u; rw [w]; intro _ q; cases q), u⟩, ?_⟩, h0⟩
    rcases hc with ⟨t, xs, p, hx, q, u⟩ | ⟨p, q, hz2, la, ls, rows, u, v, w, w2⟩
    · exact .inl ⟨t, xs, p, hx, q, u.imp (fun v => X v (by intro _ q; cases q)) fun v => X v (by intro _ q; cases q)⟩
    · exact .inr ⟨p, q, hz2, la, ls, rows, u, X v (by intro _ q; cases q), w.extI x e, w2⟩
theorem Res.ext (h : Res ρ₀ ρ a W b r i o) (x : Ext ρ ρ') : Res ρ₀ ρ' a W b r i o := h.imp (·.ext x) fun ⟨dr, h, z⟩ => ⟨dr, h.ext x, z⟩
theorem Res.extB {i' : Nat} {z' : Nat} {m' : Mp} (O : W.Ok) (hi : W.live i) (hi' : W.live i') (h : Res ρ₀ ρ a W b r i o) (x : ExtB [d] ρ ρ') (e' : ρ d = some (.nsd z' m')) (hl' : m' "leaf" = some (.ref (W.x i'))) (hne : i ≠ i') : Res ρ₀ ρ' a W b r i o :=
  h.imp (fun h => h.extB O hi hi' x e' hl' hne) fun ⟨dr, h, z⟩ => ⟨dr, h.extB O hi hi' x e' hl' hne, z⟩
theorem memK_none (O : W.Ok) {j : Nat} (hj : W.live j) : ∀ {es : List (Nat × Addr)}, (∀ p, p ∈ es → W.live p.1) → j ∉ es.map (·.1) → valueAt (memK W es) (W.key j) = none
  | [], _, _ => rfl
  | p :: es, hl, hn => by
    have h1 : W.key p.1 ≠ W.key j := fun q => hn (by rw [List.map_cons, O.kinj p.1 j (hl p (.head _)) hj q]; exact .head _)
    have h2 := memK_none O hj (es := es) (fun q hq => hl q (.tail _ hq)) fun q => hn (.tail _ q)
    unfold valueAt memK at h2 ⊢
    rw [List.map_cons, List.find?_cons]
    simp only [h1, decide_false]
    exact h2
theorem memK_get (O : W.Ok) {j : Nat} {r : Addr} : ∀ {es : List (Nat × Addr)}, (∀ p, p ∈ es → W.live p.1) → (es.map (·.1)).Nodup → (j, r) ∈ es → valueAt (memK W es) (W.key j) = some (.ref r)
  | p :: es, hl, hn, hm => by
    rw [List.map_cons, List.nodup_cons] at hn
    unfold valueAt memK
    rw [List.map_cons, List.find?_cons]
    rcases List.mem_cons.mp hm with rfl | hm'
    · simp
    · have h1 : W.key p.1 ≠ W.key j := fun q => hn.1 (by
        rw [O.kinj p.1 j (hl p (.head _)) (hl (j, r) hm) q]
        exact List.mem_map_of_mem (f := (·.1)) hm')
      simp only [h1, decide_false]
      exact memK_get O (es := es) (fun q hq => hl q (.tail _ hq)) hn.2 hm'
theorem stored_new {kvs : List (Int × Value)} {k : Int} {v : Value} (h : valueAt kvs k = none) : stored kvs k v = kvs ++ [(k, v)] := by
  unfold stored
  unfold valueAt at h
  rw [Option.map_eq_none_iff, List.find?_eq_none] at h
  rw [if_neg]
  intro q
  obtain ⟨p, hp, q⟩ := List.any_eq_true.mp q
  exact h p hp q
theorem Mem.weak {ρ₁ : Wd} (M : Mem a W b ov ρ₀ ρ md es) (x : Ext ρ₁ ρ₀) : Mem a W b ov ρ₁ ρ md es := by
  have N : ∀ {p}, ρ₀ p = none → ρ₁ p = none := fun {p} h => by
    cases q : ρ₁ p with
    | none => rfl
    | some y => rw [x _ _ q] at h; cases h
  exact ⟨x.trans M.ext, N M.md0, M.at_, M.nd, fun p hp => ⟨(M.mem p hp).1, (M.mem p hp).2.imp id fun ⟨dr, h, z⟩ => ⟨dr, h, N z⟩⟩⟩
theorem Mem.grow (M : Mem a W b ov ρ₀ ρ md es) (x : Ext ρ ρ') : Mem a W b ov ρ₀ ρ' md es := ⟨M.ext.trans x, M.md0, x _ _ M.at_, M.nd, fun p hp => ⟨(M.mem p hp).1, (M.mem p hp).2.ext x⟩⟩
theorem Mem.turn {i' z' : Nat} {m' : Mp} (O : W.Ok) (hi' : W.live i') (M : Mem a W b ov ρ₀ ρ md es) (x : ExtB [d] ρ ρ') (e' : ρ d = some (.nsd z' m')) (hl' : m' "leaf" = some (.ref (W.x i'))) (n : i' ∉ es.map (·.1)) (h0 : ρ₀ d = none) : Mem a W b ov ρ₀ ρ' md es :=
  ⟨fun p y e => x _ _ (notin1 fun q => by rw [q, h0] at e; cases e) (M.ext _ _ e), M.md0, x _ _ (notin1 fun q => by have := M.at_; rw [q, e'] at this; cases this) M.at_, M.nd,
    fun p hp => ⟨(M.mem p hp).1, (M.mem p hp).2.extB O (M.mem p hp).1 hi' x e' hl' fun q => n (q ▸ List.mem_map_of_mem (f := (·.1)) hp)⟩⟩
theorem mem_uniq : ∀ {es : List (Nat × Addr)} {p q : Nat × Addr}, (es.map (·.1)).Nodup → p ∈ es → q ∈ es → p.1 = q.1 → p = q
  | x :: es, p, q, hn, hp, hq, e => by
    rw [List.map_cons, List.nodup_cons] at hn
    rcases List.mem_cons.mp hp with h1 | h1 <;> rcases List.mem_cons.mp hq with h2 | h2
    · rw [h1, h2]
    · exact absurd (by rw [← h1, e]; exact List.mem_map_of_mem (f := (·.1)) h2) hn.1
    · exact absurd (by rw [← h2, ← e]; exact List.mem_map_of_mem (f := (·.1)) h1) hn.1
    · exact mem_uniq hn.2 h1 h2 e
theorem Mem.mroed (O : W.Ok) (M : Mem a W b ov ρ₀ ρ md es) (hm : (i, r) ∈ es) (R : RsAt ρ a W b r dr i (ov i)) (h0 : ρ₀ dr = none) (x : ExtB [dr] ρ ρ') (R' : RsAt ρ' a W b r dr i (ov i)) : Mem a W b ov ρ₀ ρ' md es := by
  have R0 := R
  obtain ⟨z, m, e1, e2, hz, hk, hl, _⟩ := R0
  refine ⟨fun p y e => x _ _ (notin1 fun q => by rw [q, h0] at e; cases e) (M.ext _ _ e), M.md0, x _ _ (notin1 fun q => by have := M.at_; rw [q, e2] at this; cases this) M.at_, M.nd, fun p hp => ⟨(M.mem p hp).1, ?_⟩⟩
  by_cases q : p.1 = i
  · have := mem_uniq (q := (i, r)) M.nd hp hm q
    subst this
    exact .inr ⟨dr, R', h0⟩
  · exact (M.mem p hp).2.extB O (M.mem p hp).1 (M.mem _ hm).1 x e2 hl q
theorem Mem.own {x dx : Addr} {b' : Bool} {z : Nat} {m : Mp} (O : W.Ok) (hi : W.live i) (M : Mem a W b ov ρ₀ ρ md es) (n : i ∉ es.map (·.1)) (e1 : ρ x = some (.ins (a.kind b') dx)) (e2 : ρ dx = some (.nsd z m)) (hl : m "leaf" = some (.ref (W.x i))) :
    Mem a W b ov (upd (upd ρ₀ dx (.nsd z m)) x (.ins (a.kind b') dx)) ρ md es := by
  have nx : md ≠ x := fun q => by have := M.at_; rw [q, e1] at this; cases this
  have nd : md ≠ dx := fun q => by have := M.at_; rw [q, e2] at this; cases this
  refine ⟨fun p y e => ?_, by rw [upd_ne _ _ nx, upd_ne _ _ nd]; exact M.md0, M.at_, M.nd, fun p hp => ⟨(M.mem p hp).1, (M.mem p hp).2.imp id fun ⟨dr, h, z0⟩ => ⟨dr, h, ?_⟩⟩⟩
  · by_cases q : p = x
    · subst q; rw [upd_self] at e; rw [e1]; exact e
    · rw [upd_ne _ _ q] at e
      by_cases q : p = dx
      · subst q; rw [upd_self] at e; rw [e2]; exact e
      · rw [upd_ne _ _ q] at e; exact M.ext _ _ e
  · obtain ⟨z', m', f1, f2, _, _, hl', _⟩ := h
    have n1 : dr ≠ x := fun q => by rw [q, e1] at f2; cases f2
    have n2 : dr ≠ dx := fun q => by
      rw [q, e2] at f2; cases f2
      rw [hl] at hl'
      exact n (O.inj i p.1 hi (M.mem p hp).1 (Value.ref.inj (Option.some.inj hl')) ▸ List.mem_map_of_mem (f := (·.1)) hp)
    rw [upd_ne _ _ n1, upd_ne _ _ n2]; exact z0
theorem Mem.store {j : Nat} (M : Mem a W b ov ρ₀ ρ md es) (hj : W.live j) (n : j ∉ es.map (·.1)) (R : Res ρ₀ ρ a W b r j (ov j)) : Mem a W b ov ρ₀ (upd ρ md (.idict (memK W (es ++ [(j, r)])))) md (es ++ [(j, r)]) := by
  have x := extB_upd ρ md (.idict (memK W (es ++ [(j, r)])))
  refine ⟨fun p y e => x _ _ (notin1 fun q => by rw [q, M.md0] at e; cases e) (M.ext _ _ e), M.md0, upd_self .., ?_, fun p hp => ?_⟩
  · rw [List.map_append, List.nodup_append]
    refine ⟨M.nd, by simp, fun p hp q hq e => n ?_⟩
    simp at hq
    rw [← hq, ← e]; exact hp
  · rcases List.mem_append.mp hp with hp | hp
    · exact ⟨(M.mem p hp).1, (M.mem p hp).2.extI x M.at_⟩
    · cases List.mem_singleton.mp hp; exact ⟨hj, R.extI x M.at_⟩
theorem Mem.len (O : W.Ok) (M : Mem a W b ov ρ₀ ρ md es) : (memK W es).length ≤ 6 := by
  unfold memK
  rw [List.length_map]
  have := nodup_lt 6 (es.map (·.1)) M.nd fun x hx => by
    obtain ⟨p, hp, rfl⟩ := List.mem_map.mp hx
    exact O.six _ (M.mem p hp).1
  rwa [List.length_map] at this
end
end Mine
end
section
open PySem PySem.W PyProof.Rows PySem.Calls
set_option Elab.async false
set_option maxRecDepth 100000
set_option linter.unusedVariables false
set_option linter.unusedSimpArgs false
set_option maxHeartbeats 2000000
namespace Mine
open PySem (Sem Str Value Heap Obj Shared)
noncomputable def rowsO (ov : Nat → Option (List Nat)) : List Nat → Option (List (List Nat))
  | [] => some []
  | j :: l => match ov j with
    | none => none
    | some x => match rowsO ov l with
      | none => none
      | some r => some (x :: r)
noncomputable def c3v (b : Bool) (W : Wo) (ov : Nat → Option (List Nat)) (i : Nat) : Option (List Nat) :=
  match rowsO ov (W.bs i) with
  | none => none
  | some rows => if (W.bs i).length = 1 then some (i :: rows.headD []) else vOf b W i ([[i]] ++ rows ++ [W.bs i])
noncomputable def OvOk (W : Wo) (ov : Nat → Option (List Nat)) : Prop := ∀ i, W.live i → ∀ xs, ov i = some xs → xs.length ≤ 6 ∧ ∀ k, k ∈ xs → W.live k
structure MkPost (a : Adr) (W : Wo) (b : Bool) (ov : Nat → Option (List Nat)) (ρ₀ : Wd) (md : Addr) (es : List (Nat × Addr)) (i : Nat) (x dx : Addr) (ρ' : Wd) (es' : List (Nat × Addr)) : Prop where
  mem : Mem a W b ov ρ₀ ρ' md es'
  sub : ∀ p, p ∈ es → p ∈ es'
  low : ∀ p, p ∈ es' → p ∈ es ∨ W.rk p.1 < W.rk i
  rs : RsAt ρ' a W b x dx i (ov i)
  d0 : ρ₀ dx = none
  below : (rowsO ov (W.bs i)).isSome = true
noncomputable def MkOk (C : Cx) (a : Adr) (W : Wo) (b : Bool) (ov : Nat → Option (List Nat)) (ρ₀ ρ : Wd) (md : Addr) (es : List (Nat × Addr)) (i n : Nat) : Prop :=
  ∀ (τ σ : Lc) (s : Shared) (A : Around) (l : List Env) (R : Result → Shared → Prop), St C ρ τ σ s → Rm A n → A.handled = none → A.frames = some l → FrOk (σ ++ τ) l →
    (∀ x dx ρ' es' s', MkPost a W b ov ρ₀ md es i x dx ρ' es' → St C ρ' τ σ s' → R (.ok (.ret (.ref x))) s') →
    (b = true → rowsO ov (W.bs i) = none → ∀ e s', Rz C ρ₀ τ σ e (.ref a.inc) (some .none) s' → R (.error (.ref e)) s') →
    codeAny C.M A (.call (.ref (a.kind b)) ⟨[.ref (W.x i), .ref md], []⟩) R s
section
variable {C : Cx} {a : Adr} {ρ ρ₀ : Wd} {τ σ : Lc} {s : Shared} {A : Around} {E : Value → Shared → Prop} {R : Result → Shared → Prop} {l : List Env} {W : Wo} {b : Bool} {ov : Nat → Option (List Nat)} {md : Addr} {es : List (Nat × Addr)} {i n : Nat}
theorem same_ok (T : Text C a) (H : MkOk C a W b ov ρ₀ ρ md es i n) {x : Addr} (S : St C ρ τ σ s) (r : Rm A (n + 1)) (hh : A.handled = none) (hA : A.frames = some l) (hF : FrOk (σ ++ τ) l)
    (hOk : ∀ x dx ρ' es' s', MkPost a W b ov ρ₀ md es i x dx ρ' es' → St C ρ' τ σ s' → R (.ok (.ret (.ref x))) s')
    (hInc : b = true → rowsO ov (W.bs i) = none → ∀ e s', Rz C ρ₀ τ σ e (.ref a.inc) (some .none) s' → R (.error (.ref e)) s') :
    codeAny C.M A (.call (.ref (if b then a.scSame else a.c3Same)) ⟨[.ref x, .ref (W.x i), .ref md], []⟩) R s := by
  cases b with
  | false =>
    refine enterE S T.fC3Same r.d (binds := [("self", .ref x), ("base", .ref (W.x i)), ("memo", .ref md)]) (fun _ _ _ _ _ _ => BindsTo.of_eq rfl) fun L cdv s' S => ?_
    refine xcons (wpAny_Return_some (Call_ (ldG S (T.glob _ _ rfl) (cwK (T.kKeep false) (ldL S rfl rfl (ldL S rfl rfl ⟨S.amb.x, callC ?_⟩))))))
    refine H _ _ _ _ _ _ S (r.deeper _) hh (Around.frames_deeper hA) (FrOk.own S rfl hF) (fun x dx ρ' es' s' P S => hOk x dx ρ' es' s' P S.forget.back0) fun hb hn e s' Z => ?_
    exact leave_St (Around.frames_deeper hA) (FrOk.own Z.1 rfl hF) rfl Z fun s' Z => hInc hb hn e s' Z.forget.back
  | true =>
    refine enterE S T.fScSame r.d (binds := [("self", .ref x), ("base", .ref (W.x i)), ("memo", .ref md)]) (fun _ _ _ _ _ _ => BindsTo.of_eq rfl) fun L cdv s' S => ?_
    refine xcons (wpAny_Return_some (Call_ (ldG S (T.glob _ _ rfl) (cwK (T.kKeep true) (ldL S rfl rfl (ldL S rfl rfl ⟨S.amb.x, callC ?_⟩))))))
    refine H _ _ _ _ _ _ S (r.deeper _) hh (Around.frames_deeper hA) (FrOk.own S rfl hF) (fun x dx ρ' es' s' P S => hOk x dx ρ' es' s' P S.forget.back0) fun hb hn e s' Z => ?_
    exact leave_St (Around.frames_deeper hA) (FrOk.own Z.1 rfl hF) rfl Z fun s' Z => hInc hb hn e s' Z.forget.back
theorem mkStat_ok (T : Text C a) {j : Nat} {t : Addr} {xs : List Nat} (ht : ρ t = some (.tup (W.refs xs))) (hx : xs.length ≤ 100) (S : St C ρ τ σ s) (r : Rm A 3)
    (h : ∀ x ρ' s', Ext ρ ρ' → StatAt ρ' a W x j (some xs) → St C ρ' τ σ s' → R (.ok (.ret (.ref x))) s') :
    codeAny C.M A (.call (.ref a.stat) ⟨[.ref (W.x j), .ref t], []⟩) R s := by
  refine mk_St S T.mkStat fun x dx s' nx nd hne S => ?_
  have x1 : Ext ρ (upd (upd ρ dx (.nsd 0 fun _ => none)) x (.ins a.stat dx)) := (ext_upd _ nd).trans (ext_upd _ (by rw [upd_ne _ _ hne]; exact nx))
  generalize hρ1 : upd (upd ρ dx (.nsd 0 fun _ => none)) x (.ins a.stat dx) = ρ1 at S x1
  have f1 : ρ1 x = some (.ins a.stat dx) := by rw [← hρ1, upd_self]
  have f2 : ρ1 dx = some (.nsd 0 fun _ => none) := by rw [← hρ1, upd_ne _ _ (Ne.symm hne), upd_self]
  refine enter S T.fStatInit (r.mk _ _ _).d (binds := [("self", .ref x), ("C", .ref (W.x j)), ("mro", .ref t)]) (fun _ _ _ _ _ _ => BindsTo.of_eq rfl) fun L cdv s' S => ?_
  refine xcons (plainObj_wpAny_Assign_Attribute (ldL S rfl rfl (ldL S rfl rfl (sAttrE S f1 f2 (T.statSet _ rfl) (by decide) fun ρ2 z2 s' hz2 hρ2 S => ?_))))
  have g1 : ρ2 x = some (.ins a.stat dx) := by rw [hρ2, upd_ne _ _ hne]; exact f1
  have g2 : ρ2 dx = some (.nsd z2 (Mp.put (fun _ => none) "leaf" (.ref (W.x j)))) := by rw [hρ2, upd_self]
  have ndt : t ≠ dx := fun q => by rw [q, nd] at ht; cases ht
  have ht2 : ρ2 t = some (.tup (W.refs xs)) := by rw [hρ2, upd_ne _ _ ndt]; exact x1 _ _ ht
  refine xcons (plainObj_wpAny_Assign_Attribute (Call_ (ldB S (T.nog _ rfl) rfl (cwT (ldL S rfl rfl (call_tuple_tup (S.o ht2) (ldL S rfl rfl (sAttr S g1 g2 (T.statSet _ rfl) (by ((with_reducible refine oz2 ‹_› ?_); exact rfl)) fun s' S => ?_))))))))
  obtain ⟨z3, ρ3, hρ3, S⟩ : ∃ z3 ρ3, ρ3 = upd ρ2 dx (.nsd z3 (Mp.put (Mp.put (fun _ => none) "leaf" (.ref (W.x j))) "_mro" (.ref t))) ∧ St C ρ3 _ _ s' := ⟨_, _, rfl, S⟩
  have e0 : Ext ρ ρ3 := fun p y e => by
    have np : p ≠ dx := fun q => by rw [q, nd] at e; cases e
    rw [hρ3, upd_ne _ _ np, hρ2, upd_ne _ _ np]; exact x1 _ _ e
  refine wpAny_execs_nil ⟨rfl, h x ρ3 _ e0 ?_ S.forget.back0⟩
  exact ⟨dx, z3, _, t, xs, by rw [hρ3, upd_ne _ _ hne]; exact g1, by rw [hρ3, upd_self], rfl, rfl, e0 _ _ ht, rfl, rfl, rfl, hx⟩
noncomputable def ExtN (ρ ρ' : Wd) : Prop := ∀ p y, ρ p = some y → (∀ z m, y ≠ .nsd z m) → ρ' p = some y
theorem ExtN.refl (ρ : Wd) : ExtN ρ ρ := fun _ _ e _ => e
theorem ExtN.trans {a b c : Wd} (x : ExtN a b) (y : ExtN b c) : ExtN a c := fun p q e n => y p q (x p q e n) n
theorem Ext.en {a b : Wd} (x : Ext a b) : ExtN a b := fun p q e _ => x p q e
theorem ExtB.en {ρ ρ' : Wd} {d : Addr} {z : Nat} {m : Mp} (x : ExtB [d] ρ ρ') (e : ρ d = some (.nsd z m)) : ExtN ρ ρ' := fun p y h n => x p y (notin1 fun q => by rw [q, e] at h; cases h; exact n _ _ rfl) h
theorem RowsAt.extN {ρ ρ' : Wd} {W : Wo} : ∀ {ls : List Addr} {rs : List (List Nat)}, RowsAt ρ W ls rs → ExtN ρ ρ' → RowsAt ρ' W ls rs
  | [], [], _, _ => trivial
  | _ :: ls, _ :: rs, h, x => ⟨x _ _ h.1 (by intro _ _ q; cases q), RowsAt.extN (ls := ls) (rs := rs) h.2 x⟩
theorem rowsO_none : ∀ {l : List Nat} {j : Nat}, j ∈ l → ov j = none → rowsO ov l = none
  | k :: l, j, hm, h => by
    rw [rowsO]
    rcases List.mem_cons.mp hm with rfl | hm
    · rw [h]
    · cases ov k with
      | none => rfl
      | some x => dsimp only; rw [rowsO_none hm h]
theorem rowsO_snoc : ∀ {l : List Nat} {j : Nat} {rows : List (List Nat)} {x : List Nat}, rowsO ov l = some rows → ov j = some x → rowsO ov (l ++ [j]) = some (rows ++ [x])
  | [], j, rows, x, h, hj => by rw [rowsO] at h; cases h; simp [rowsO, hj]
  | k :: l, j, rows, x, h, hj => by
    rw [rowsO] at h
    rw [List.cons_append, rowsO]
    cases q : ov k with
    | none => rw [q] at h; cases h
    | some y =>
      rw [q] at h
      dsimp only at h ⊢
      cases q2 : rowsO ov l with
      | none => rw [q2] at h; cases h
      | some r =>
        rw [q2] at h
        cases h
        rw [rowsO_snoc q2 hj]
        rfl
theorem rowsO_wf (hov : OvOk W ov) : ∀ {l : List Nat} {rows : List (List Nat)}, (∀ j, j ∈ l → W.live j) → rowsO ov l = some rows → rows.length = l.length ∧ totL rows ≤ 6 * l.length ∧ ∀ r, r ∈ rows → r.length ≤ 6 ∧ ∀ k, k ∈ r → W.live k
  | [], rows, _, h => by rw [rowsO] at h; cases h; exact ⟨rfl, Nat.le_refl _, fun r hr => nomatch hr⟩
  | j :: l, rows, hl, h => by
    rw [rowsO] at h
    cases q : ov j with
    | none => rw [q] at h; cases h
    | some x =>
      rw [q] at h
      dsimp only at h
      cases q2 : rowsO ov l with
      | none => rw [q2] at h; cases h
      | some r =>
        rw [q2] at h
        cases h
        have h1 := hov j (hl j (.head _)) x q
        obtain ⟨h2, h3, h4⟩ := rowsO_wf hov (fun k hk => hl k (.tail _ hk)) q2
        refine ⟨congrArg (· + 1) h2, by rw [totL_cons, List.length_cons]; omega, fun r' hr' => ?_⟩
        rcases List.mem_cons.mp hr' with rfl | hr'
        · exact h1
        · exact h4 _ hr'
theorem resMro (T : Text C a) (O : W.Ok) (N : Nodes ρ₀ a.ic W) (M : Mem a W b ov ρ₀ ρ md es) {r : Addr} (hm : (i, r) ∈ es) (S : St C ρ τ σ s) (rm : Rm A 9) (hh : A.handled = none) (hA : A.frames = some l) (hF : FrOk (σ ++ τ) l)
    {pl : Sem Bool} {pos : Pos} {Q : Value → Shared → Prop}
    (hOk : ∀ xs la ρ' s', ov i = some xs → Mem a W b ov ρ₀ ρ' md es → ExtN ρ ρ' → St C ρ' τ (σ ++ [(la, .list (W.refs xs))]) s' → Q (.ref la) s')
    (hInc : b = true → ov i = none → ∀ e s', Rz C ρ₀ τ σ e (.ref a.inc) (some .none) s' → E (.ref e) s') {env : Env} :
    wpAny C.M A (getMethod (.ref r) "mro" pl) (fun fx s₂ => wpAny C.M A (callWith pos fx.1 fx.2 (backTo pos (starEach [] env)) (backToKw pos (keywordEach [] env))) Q E s₂) E s := by
  rcases (M.mem _ hm).2 with ⟨d, z, m, t, xs, h1, h2, h3, h4, h5, h6, h7, h8, h9⟩ | ⟨dr, R0, h0⟩
  · refine gMeth S h1 h2 T.statM h7 (cwK T.fStatMro.keep ⟨S.amb.x, callC (statMro_ok T S h1 h2 h4 h5 (by rw [Wo.refs, List.length_map]; exact Nat.le_trans h9 (by decide)) (rm.le (by decide)) fun la s' S => ?_)⟩)
    exact hOk xs la ρ s' h8 M (.refl _) S
  · have R1 := R0
    obtain ⟨z, m, e1, e2, hz, hk, hl, _⟩ := R1
    refine gMeth S e1 e2 (T.kMeth b _ _ rfl) (hk _ rfl) (cwK T.fMroF.keep ⟨S.amb.x, callC (mro_ok T O (N.ext M.ext) (M.mem _ hm).1 R0 S rm hh hA hF ?_ ?_)⟩)
    · intro xs la ρ' s' ho x R' S
      exact hOk xs la ρ' s' ho (M.mroed O hm R0 h0 x R') (ExtB.en x e2) S
    · intro hb ho e ρ' s' x Z
      exact hInc hb ho e s' (Z.mono fun p y q => x _ _ (notin1 fun w => by rw [w, h0] at q; cases q) (M.ext _ _ q))
end
end Mine
end
section
open PySem PySem.W PyProof.Rows PySem.Calls
set_option Elab.async false
set_option genSizeOf false
set_option genInjectivity false
set_option maxRecDepth 100000
set_option linter.unusedVariables false
set_option linter.unusedSimpArgs false
set_option maxHeartbeats 2000000
namespace Mine
open PySem (Sem Str Value Heap Obj Shared)
noncomputable abbrev c3E (C : Cx) (a : Adr) (L : Addr) : Env := envX "C3.__init__" (clsF 8 4).scope L a.c3Init (.ref C.c2) (cellsFrom (L + 1) (clsF 8 4).scope.names [])
structure LpS where
  m : Mp
  ρ : Wd
  es : List (Nat × Addr)
  rs : List Addr
section
variable {C : Cx} {a : Adr} {ρ ρ₀ ρ₁ : Wd} {τ σ : Lc} {s : Shared} {A : Around} {E : Value → Shared → Prop} {Q : Flow → Shared → Prop} {l : List Env} {W : Wo} {b : Bool} {ov : Nat → Option (List Nat)} {md : Addr} {es : List (Nat × Addr)} {i n : Nat}
theorem refs_get {W : Wo} {l : List Nat} {k : Nat} {v : Value} (h : (W.refs l)[k]? = some v) : ∃ j, l[k]? = some j ∧ v = .ref (W.x j) := by
  rw [Wo.refs, List.getElem?_map, Option.map_eq_some_iff] at h
  obtain ⟨x, e, q⟩ := h; exact ⟨x, e, q.symm⟩
inductive LpN (C : Cx) (a : Adr) (W : Wo) (b : Bool) (ov : Nat → Option (List Nat)) (ρ₁ : Wd) (x br xi xj md : Addr) (ek : List (Nat × Addr)) (rki j : Nat) (τ : Lc) (L : Addr) (p : Addr × AObj) (f : Flow) (s' : Shared) : Prop
  | mk (e : f = .next) (m' : Mp) (ρ' : Wd) (es' : List (Nat × Addr)) (r : Addr) (h1 : m' "self" = some (.ref x)) (h2 : m' "C" = some (.ref xi)) (h3 : m' "base_resolvers" = some (.ref br)) (h4 : m' "base" = some (.ref xj)) (h5 : Mem a W b ov ρ₁ ρ' md es')
      (h6 : ∀ p, p ∈ ek → p ∈ es') (h7 : ∀ p, p ∈ es' → p ∈ ek ∨ W.rk p.1 < rki) (h8 : (j, r) ∈ es') (S : St C ρ' τ [(L, .fr "frame" m'), (L + 1, .cell (some (.ref md))), p] s') : LpN C a W b ov ρ₁ x br xi xj md ek rki j τ L p f s'
structure LpP (a : Adr) (W : Wo) (ov : Nat → Option (List Nat)) (b : Bool) (x br md : Addr) (i : Nat) (ρ₁ : Wd) (es : List (Nat × Addr)) (k : Nat) (y : LpS) : Prop where
  f1 : y.m "self" = some (.ref x)
  f2 : y.m "C" = some (.ref (W.x i))
  f3 : y.m "base_resolvers" = some (.ref br)
  f4 : Mem a W b ov ρ₁ y.ρ md y.es
  f5 : (∀ p, p ∈ es → p ∈ y.es)
  f6 : (∀ p, p ∈ y.es → p ∈ es ∨ W.rk p.1 < W.rk i)
  f7 : y.rs.length = k
  f8 : (∀ (q j : Nat) (r : Addr), (W.bs i)[q]? = some j → y.rs[q]? = some r → (j, r) ∈ y.es)
theorem c3_for (T : Text C a) (O : W.Ok) (hi : W.live i) {x dx br L : Addr} {z : Nat} {m m0 : Mp} (N : Nodes ρ₁ a.ic W) (x0 : Ext ρ₀ ρ₁) (k1 : ρ₁ x = some (.ins (a.kind b) dx)) (k2 : ρ₁ dx = some (.nsd z m)) (hm : KDom m)
    (M : Mem a W b ov ρ₁ ρ md es) (hval : ∀ j, W.live j → j ∉ es.map (·.1) → ov j = c3v b W ov j)
    (H : ∀ j ρ' es', j ∈ W.bs i → Mem a W b ov ρ₁ ρ' md es' → (∀ p, p ∈ es → p ∈ es') → j ∉ es'.map (·.1) → MkOk C a W b ov ρ₁ ρ' md es' j n)
    (S : St C ρ τ [(L, .fr "frame" m0), (L + 1, .cell (some (.ref md))), (br, .list [])] s) (q1 : m0 "self" = some (.ref x)) (q2 : m0 "C" = some (.ref (W.x i))) (q3 : m0 "base_resolvers" = some (.ref br))
    (r : Rm A (n + 2)) (hh : A.handled = none) (hA : A.frames = some (c3E C a L :: l)) (hF : FrOk τ l)
    (hOk : ∀ (m' : Mp) (ρ' : Wd) (es' : List (Nat × Addr)) (rs : List Addr) (s' : Shared), m' "self" = some (.ref x) → m' "C" = some (.ref (W.x i)) → m' "base_resolvers" = some (.ref br) → Mem a W b ov ρ₁ ρ' md es' → (∀ p, p ∈ es → p ∈ es') → (∀ p, p ∈ es' → p ∈ es ∨ W.rk p.1 < W.rk i) → rs.length = (W.bs i).length →
      (∀ (q j : Nat) (r : Addr), (W.bs i)[q]? = some j → rs[q]? = some r → (j, r) ∈ es') → St C ρ' τ [(L, .fr "frame" m'), (L + 1, .cell (some (.ref md))), (br, .list (adrs rs))] s' → Q .next s')
    (hInc : b = true → rowsO ov (W.bs i) = none → ∀ e m fl s', Rz C ρ₀ τ [(L, .fr "frame" m)] e (.ref a.inc) (some fl) s' → E (.ref e) s') :
    wpAny C.M A (exec (nthS (clsF 8 4).body 3) (c3E C a L)) Q E s := by
  refine Nodes.el N hi fun dn zn mn tk tb n1 n2 n3 n4 n5 => ?_
  refine xFor (xAttr (ldL S rfl q2 (gOwn S (M.ext _ _ n1) (M.ext _ _ n2) (T.icOwn _ rfl) n4 fun s' S => itTup S (S.o (M.ext _ _ n5)) fun I s' S _ => ?_)))
  refine forLoop_t (α := LpS) (τ := τ) (E' := fun v s' => b = true ∧ rowsO ov (W.bs i) = none ∧ ∃ (e : Addr) (m : Mp) (fl : Value), v = .ref e ∧ Rz C ρ₀ τ [(L, .fr "frame" m)] e (.ref a.inc) (some fl) s') (Wk.tup hh I tb (W.refs (W.bs i)))
    (fun y => y.ρ) (fun y => [(L, .fr "frame" y.m), (L + 1, .cell (some (.ref md))), (br, .list (adrs y.rs))])
    (LpP a W ov b x br md i ρ₁ es) ?_ ?_ ⟨m0, ρ, es, []⟩ S ⟨q1, q2, q3, M, fun _ h => h, fun _ h => .inl h, rfl, fun q j r _ h => by simp at h⟩ ?_ ?_
  · rintro v s' ⟨hb, hn, e, m, fl, rfl, Z⟩
    refine noted_St hA (FrOk.own Z.1 rfl hF) rfl Z fun s' Z => ?_
    exact came_St rfl Z fun s' Z => hInc hb hn e m _ s' Z
  · intro k y _ s P S; exact S.o (P.f4.ext _ _ n5)
  · rintro k Qb Eb hQb hEb hRb ⟨m1, ρk, ek, rk⟩ v s hv ⟨p1, p2, p3, Mk, hsub, hlow, hlen, hrs⟩ S
    dsimp only at p1 p2 p3 Mk hsub hlow hlen hrs S
    obtain ⟨j, hj, rfl⟩ := refs_get hv
    have hjm := List.mem_of_getElem? hj
    have c := O.cl i hi j hjm
    refine Nodes.el N c.1 fun dj zj mj tkj tbj j1 j2 j3 j4 j5 => ?_
    have hF' : FrOk ((I, titO tb (k + 1)) :: τ) l := hF.mono fun p hp => .tail _ hp
    refine wpAny_of_eq (a := ()) rfl (wpAny_assign_Name (stL S rfl fun s' S => ?_))
    refine pk5 (P1 := fun (m2 : Mp) => St C ρk ((I, titO tb (k + 1)) :: τ) [(L, .fr "frame" m2), (L + 1, .cell (some (.ref md))), (br, .list (adrs rk))] s') (P2 := fun (m2 : Mp) => m2 "self" = some (.ref x)) (P3 := fun (m2 : Mp) => m2 "C" = some (.ref (W.x i))) (P4 := fun (m2 : Mp) => m2 "base_resolvers" = some (.ref br)) (P5 := fun (m2 : Mp) => m2 "base" = some (.ref (W.x j))) _ (S) (p1) (p2) (p3) (rfl) fun m2 S t1 t2 t3 t4 => ?_
    refine xcons (wpAny_mono (Q := LpN C a W b ov ρ₁ x br (W.x i) (W.x j) md ek (W.rk i) j ((I, titO tb (k + 1)) :: τ) L (br, .list (adrs rk)))
      (wpAny_If (xCmp (xAttr (ldL S rfl t4 (gOwn S (Mk.ext _ _ j1) (Mk.ext _ _ j2) (T.icOwn _ rfl) j3 fun s' S => ldC S 1 rfl (oNotInD S (S.o Mk.at_) fun s' S => wpAny_truthy_bool ?_)))))) (fun f s' h => ?_) fun _ _ e => e)
    · by_cases hjk : j ∈ ek.map (·.1)
      · obtain ⟨rj, hp⟩ : ∃ rj, (j, rj) ∈ ek := by
          obtain ⟨⟨j', rj⟩, hp, hpe⟩ := List.mem_map.mp hjk
          exact ⟨rj, hpe ▸ hp⟩
        rw [memK_get O (fun p hp => (Mk.mem p hp).1) Mk.nd hp]
        exact wpAny_execs_nil ⟨rfl, m2, ρk, ek, rj, t1, t2, t3, t4, Mk, fun _ h => h, fun _ h => .inl h, hp, S⟩
      · rw [memK_none O c.1 (fun p hp => (Mk.mem p hp).1) hjk]
        have ksame : keepIn C.K (.ref (if b then a.scSame else a.c3Same)) = true := by
          cases b
          · exact T.fC3Same.keep
          · exact T.fScSame.keep
        refine gen fun Qc hQc => ?_
        refine xcons (xAsg (xMeth (ldL S rfl t1 (gMeth S (Mk.ext _ _ k1) (Mk.ext _ _ k2) (T.kMeth b _ _ rfl) (hm _ rfl) (cwK ksame (ldL S rfl t4 (ldC S 1 rfl ⟨S.amb.x, callC ?_⟩)))))))
        refine same_ok T (H j ρk ek hjm Mk hsub hjk) S (r.le (by ((with_reducible refine oz11 ?_); exact rfl))) hh hA (FrOk.own S rfl hF') ?_ ?_
        · intro rj drj ρ' es' s' P S
          refine stL S rfl fun s' S => ?_
          have hje : j ∉ es'.map (·.1) := fun q => by
            obtain ⟨p, hp, e⟩ := List.mem_map.mp q
            rcases P.low p hp with h | h
            · exact hjk (e ▸ List.mem_map_of_mem (f := (·.1)) h)
            · rw [e] at h; exact absurd h (Nat.lt_irrefl _)
          refine xcons (wpAny_Assign_Subscript (ldL S rfl rfl (ldC S 1 rfl (xAttr (ldL S rfl t4 (gOwn S (P.mem.ext _ _ j1) (P.mem.ext _ _ j2) (T.icOwn _ rfl) j3 fun s' S => hDSet (S.o P.mem.at_) (Nat.le_trans (P.mem.len O) (by decide)) fun s' cg t => ?_))))))
          have S := S.setO P.mem.at_ cg t
          rw [stored_new (memK_none O c.1 (fun p hp => (P.mem.mem p hp).1) hje)] at S
          have em : memK W es' ++ [(W.key j, Value.ref rj)] = memK W (es' ++ [(j, rj)]) := by simp [memK]
          rw [em] at S
          refine wpAny_execs_nil (hQc _ _ ⟨rfl, Mp.put m2 "resolver" (.ref rj), _, es' ++ [(j, rj)], rj, t1, t2, t3, t4, P.mem.store c.1 hje (.inr ⟨drj, P.rs, P.d0⟩), fun p hp => List.mem_append_left _ (P.sub p hp), fun p hp => ?_, List.mem_append_right _ (.head _), S⟩)
          rcases List.mem_append.mp hp with hp | hp
          · exact (P.low p hp).imp id fun h => Nat.lt_trans h c.2
          · cases List.mem_singleton.mp hp; exact .inr c.2
        · intro hb hn e s' Z
          refine hEb _ _ ⟨hb, rowsO_none hjm ?_, e, m2, _, rfl, (Z.mono x0).sub ?_⟩
          · rw [hval j c.1 fun q => hjk ?_, c3v, hn]
            obtain ⟨p, hp, e⟩ := List.mem_map.mp q
            exact e ▸ List.mem_map_of_mem (f := (·.1)) (hsub p hp)
          · exact List.Sublist.append (l₁ := [(L, AObj.fr "frame" m2)]) (List.Sublist.cons_cons _ (List.nil_sublist _)) (List.sublist_cons_self ..)
    · obtain ⟨rfl, m3, ρ', es', rj, u1, u2, u3, u4, M', hs', hl', hm', S⟩ := h
      refine xcons (wpAny_Expr_any (xMeth (ldL S rfl u3 (gAppend (S.at 2 rfl) (cwB (xSub (ldC S 1 rfl (xAttr (ldL S rfl u4 (gOwn S (M'.ext _ _ j1) (M'.ext _ _ j2) (T.icOwn _ rfl) j3 fun s' S => sDGet S (S.o M'.at_) (memK_get O (fun p hp => (M'.mem p hp).1) M'.nd hm') fun s' S => bAppend S 2 rfl ?_ fun s' S => ?_))))))))))
      · have := (List.getElem?_eq_some_iff.mp hj).1
        have h5 := O.len i hi
        rw [List.length_map]
        show rk.length ≤ 100000
        omega
      have ea : adrs rk ++ [Value.ref rj] = adrs (rk ++ [rj]) := by simp [adrs]
      rw [ea] at S
      refine wpAny_execs_nil (hQb ⟨m3, ρ', es', rk ++ [rj]⟩ _ ⟨u1, u2, u3, M', fun p hp => hs' p (hsub p hp), fun p hp => ?_, by show (rk ++ [rj]).length = k + 1; rw [List.length_append, List.length_singleton, hlen], fun q j' r' h1 h2 => ?_⟩ S)
      · rcases hl' p hp with h | h
        · exact hlow p h
        · exact .inr h
      · rcases Nat.lt_trichotomy q rk.length with h | h | h
        · rw [List.getElem?_append_left h] at h2
          exact hs' _ (hrs q j' r' h1 h2)
        · rw [List.getElem?_append_right (Nat.le_of_eq h.symm), h, Nat.sub_self] at h2
          rw [h, hlen, hj] at h1
          cases h1; cases h2; exact hm'
        · rw [List.getElem?_append_right (Nat.le_of_lt h)] at h2
          have : q - rk.length ≠ 0 := by omega
          cases w : q - rk.length with
          | zero => exact absurd w this
          | succ w' => rw [w] at h2; cases h2
  · rintro ⟨m1, ρk, ek, rk⟩ s ⟨p1, p2, p3, Mk, hsub, hlow, hlen, hrs⟩ S
    dsimp only at p1 p2 p3 Mk hsub hlow hlen hrs S
    refine wpAny_execs_nil (hOk m1 ρk ek rk s p1 p2 p3 Mk hsub hlow (by rw [hlen, Wo.refs, List.length_map]) hrs S)
end
end Mine
end
section
open PySem PySem.W PyProof.Rows PySem.Calls
set_option Elab.async false
set_option maxRecDepth 100000
set_option linter.unusedVariables false
set_option linter.unusedSimpArgs false
set_option maxHeartbeats 2000000
namespace Mine
open PySem (Sem Str Value Heap Obj Shared)
section
variable {C : Cx} {a : Adr} {ρ ρ₀ ρ₁ : Wd} {τ σ : Lc} {s : Shared} {A : Around} {E : Value → Shared → Prop} {Q : Flow → Shared → Prop} {l : List Env} {W : Wo} {b : Bool} {ov : Nat → Option (List Nat)} {md : Addr} {es : List (Nat × Addr)} {i n : Nat}
theorem big1 : 1 ≤ Big := by decide
theorem RowsAt.app {W : Wo} : ∀ {l1 : List Addr} {r1 : List (List Nat)} {l2 : List Addr} {r2 : List (List Nat)}, RowsAt ρ W l1 r1 → RowsAt ρ W l2 r2 → RowsAt ρ W (l1 ++ l2) (r1 ++ r2)
  | [], [], _, _, _, h => h
  | _ :: l1, _ :: r1, _, _, h, h' => ⟨h.1, RowsAt.app (l1 := l1) (r1 := r1) h.2 h'⟩
theorem c3_tree (T : Text C a) (O : W.Ok) (hov : OvOk W ov) (hi : W.live i) {x dx br L : Addr} {z : Nat} {m m0 : Mp} (N : Nodes ρ₁ a.ic W) (x0 : Ext ρ₀ ρ₁) (hdx : ρ₀ dx = none) (k1 : ρ₁ x = some (.ins (a.kind b) dx)) (k2 : ρ₁ dx = some (.nsd z m)) (hz : z ≤ 900) (hl : m "leaf" = some (.ref (W.x i)))
    (M : Mem a W b ov ρ₁ ρ md es) (hnot : i ∉ es.map (·.1)) {rs : List Addr} (hlen : rs.length = (W.bs i).length) (hrs : ∀ (q j : Nat) (r : Addr), (W.bs i)[q]? = some j → rs[q]? = some r → (j, r) ∈ es)
    (S : St C ρ τ [(L, .fr "frame" m0), (L + 1, .cell (some (.ref md))), (br, .list (adrs rs))] s) (q1 : m0 "self" = some (.ref x)) (q2 : m0 "C" = some (.ref (W.x i)))
    (r : Rm A 10) (hh : A.handled = none) (hA : A.frames = some (c3E C a L :: l)) (hF : FrOk τ l)
    (hOk : ∀ (rows : List (List Nat)) (la : Addr) (ls : List Addr) (z' : Nat) (ρ' : Wd) (s' : Shared), rowsO ov (W.bs i) = some rows → Mem a W b ov ρ₀ ρ' md es → ρ' x = some (.ins (a.kind b) dx) → ρ' dx = some (.nsd z' (m.put "base_tree" (.ref la))) → z' ≤ z + 1 → ρ' la = some (.list (adrs ls)) →
      RowsAt ρ' W ls ([[i]] ++ rows ++ [W.bs i]) → St C ρ' τ [(L, .fr "frame" m0), (L + 1, .cell (some (.ref md))), (br, .list (adrs rs))] s' → Q .next s')
    (hInc : b = true → rowsO ov (W.bs i) = none → ∀ e m fl s', Rz C ρ₀ τ [(L, .fr "frame" m)] e (.ref a.inc) (some fl) s' → E (.ref e) s') :
    wpAny C.M A (exec (nthS (clsF 8 4).body 4) (c3E C a L)) Q E s := by
  refine Nodes.el N hi fun dn zn mn tk tb n1 n2 n3 n4 n5 => ?_
  have hbl := O.len i hi
  refine plainObj_wpAny_Assign_Attribute (xBin (xBin (eList (eList (ldL S rfl q2 ⟨_, _, _, S, big1, fun l1 s' S => ⟨_, _, _, S, big1, fun l2 s' S => ?_⟩⟩)))))
  have n1' := S.none_of_nth 3 rfl
  have S := S.give 3 rfl
  obtain ⟨ρ2, x2, el1, S⟩ : ∃ ρ2, Ext ρ ρ2 ∧ ρ2 l1 = some (.list (W.refs [i])) ∧ St C ρ2 τ [(L, .fr "frame" m0), (L + 1, .cell (some (.ref md))), (br, .list (adrs rs)), (l2, .list (adrs [l1]))] s' := ⟨_, ext_upd _ n1', upd_self .., S⟩
  have M2 := M.grow x2
  refine listComp_stE (τ := τ) (α := Wd × List Addr × List (List Nat)) (E' := fun Lc v s' => b = true ∧ rowsO ov (W.bs i) = none ∧ ∃ (e : Addr) (m : Mp) (fl : Value), v = .ref e ∧ Rz C ρ₀ τ [(Lc, .fr "dict" m), (L, .fr "frame" m0)] e (.ref a.inc) (some fl) s')
    (fun y => y.1) (fun _ => [(L, .fr "frame" m0), (L + 1, .cell (some (.ref md))), (br, .list (adrs rs)), (l2, .list (adrs [l1]))])
    (fun k y ys => Mem a W b ov ρ₁ y.1 md es ∧ ys = adrs y.2.1 ∧ RowsAt y.1 W y.2.1 y.2.2 ∧ rowsO ov ((W.bs i).take k) = some y.2.2 ∧ y.1 l1 = some (.list (W.refs [i]))) rfl (by rfl) rfl ?_ ?_
  · rintro Lc v s' ⟨hb, hn, e, m', fl, rfl, Z⟩
    exact comp_out (τ := τ) (σ := [(L, .fr "frame" m0)]) hA (FrOk.cons rfl rfl (.tail _ (.head _)) (hF.mono fun p hp => .tail _ (.tail _ hp))) rfl Z fun fl' s' Z => hInc hb hn e m0 fl' s' Z
  refine xAttr (ldL S rfl q2 (gOwn S (M2.ext _ _ n1) (M2.ext _ _ n2) (T.icOwn _ rfl) n4 fun s' S => itTup S (S.o (M2.ext _ _ n5)) fun I s' S _ => ⟨I, _, W.refs (W.bs i), _, (ρ2, [], []), rfl, Wk.tup hh I tb (W.refs (W.bs i)), ?_, S, ⟨M2, rfl, trivial, rfl, el1⟩, ?_, ?_, ?_⟩))
  · rw [Wo.refs, List.length_map]; exact Nat.le_trans hbl (by decide)
  · rintro k ⟨ρk, lk, rk⟩ ys τ' σ' s ⟨Mk, _⟩ S
    exact S.o (Mk.ext _ _ n5)
  · rintro k ⟨ρk, lk, rk⟩ v ys Lc D mc s hv ⟨Mk, hys, hrows, hro, ekl⟩ hmv S
    dsimp only at Mk hys hrows hro ekl S
    obtain ⟨j, hj, rfl⟩ := refs_get hv
    have hjm := List.mem_of_getElem? hj
    have c := O.cl i hi j hjm
    refine Nodes.el N c.1 fun dj zj mj tkj tbj j1 j2 j3 j4 j5 => ?_
    obtain ⟨rj, hrj⟩ : ∃ rj, rs[k]? = some rj := by
      have := (List.getElem?_eq_some_iff.mp hj).1
      exact ⟨rs[k]'(by omega), List.getElem?_eq_getElem _⟩
    have hjr := hrs k j rj hj hrj
    have hF' : FrOk ((D, .list ys) :: (I, titO tb (k + 1)) :: τ) l := hF.mono fun p hp => .tail _ (.tail _ hp)
    refine tests_nil ?_
    rw [if_pos rfl]
    refine xMeth (xSub (ldC S 2 rfl (xAttr (ldL S rfl hmv (gOwn S (Mk.ext _ _ j1) (Mk.ext _ _ j2) (T.icOwn _ rfl) j3 fun s' S => sDGet S (S.o Mk.at_) (memK_get O (fun p hp => (Mk.mem p hp).1) Mk.nd hjr) fun s' S => ?_)))))
    refine resMro T O N Mk hjr S (r.le (by decide)) hh hA (FrOk.cons rfl rfl (.tail _ (.head _)) (hF'.mono fun p hp => List.mem_append_right _ hp)) ?_ ?_
    · intro xs la ρ' s' ho M' xN S
      have nla := S.none_of_nth 5 rfl
      have S := S.give 5 rfl
      have x3 : Ext ρ' (upd ρ' la (.list (W.refs xs))) := ext_upd _ nla
      refine ⟨(upd ρ' la (.list (W.refs xs)), lk ++ [la], rk ++ [xs]), ⟨M'.grow x3, ?_, ?_, ?_, ?_⟩, S⟩
      · rw [hys]; simp [adrs]
      · exact ((hrows.extN xN).ext x3).snoc (upd_self ..)
      · show rowsO ov ((W.bs i).take (k + 1)) = some (rk ++ [xs])
        rw [List.take_add_one, hj]
        exact rowsO_snoc hro ho
      · exact x3 _ _ (xN _ _ ekl (by intro _ _ q; cases q))
    · intro hb hn e s' Z
      refine ⟨hb, rowsO_none hjm hn, e, mc, _, rfl, (Z.mono x0).sub ?_⟩
      refine List.Sublist.append (l₁ := [(Lc, AObj.fr "dict" mc), (L, AObj.fr "frame" m0)]) (List.Sublist.cons_cons _ (List.Sublist.cons_cons _ (List.nil_sublist _))) (List.Sublist.cons _ (List.sublist_cons_self ..))
  · rintro ⟨ρk, lk, rk⟩ ys D s ⟨Mk, hys, hrows, hro, ekl⟩ S
    dsimp only at Mk hys hrows hro ekl S
    have hro' : rowsO ov (W.bs i) = some rk := by
      rw [Wo.refs, List.length_map, List.take_length] at hro; exact hro
    have wf := rowsO_wf hov (fun j hj => (O.cl i hi j hj).1) hro'
    subst hys
    have hlk : lk.length ≤ 5 := by rw [hrows.len, wf.1]; exact hbl
    refine oAddL S (S.at 3 rfl) (S.at 4 rfl) (by simp [adrs, Big]; omega) fun r1 s' S => ?_
    refine eList (Call_ (ldB S (T.nog _ rfl) rfl (cwT (xAttr (ldL S rfl q2 (gOwn S (Mk.ext _ _ n1) (Mk.ext _ _ n2) (T.icOwn _ rfl) n4 fun s' S => bListT S (S.o (Mk.ext _ _ n5)) ?_ fun l3 s' S => ⟨_, _, _, S, big1, fun l4 s' S => ?_⟩))))))
    · rw [Wo.refs, List.length_map]; exact Nat.le_trans hbl (by decide)
    refine oAddL S (S.at 5 rfl) (S.at 7 rfl) (by simp [adrs, Big]; ((with_reducible refine oz2 ‹_› ?_); exact rfl)) fun la s' S => ?_
    have ea : adrs [l1] ++ adrs lk ++ [Value.ref l3] = adrs ([l1] ++ lk ++ [l3]) := by simp [adrs]
    rw [ea] at S
    refine S.giveE 8 rfl fun ρ5 y1 e1 S => ?_
    refine S.giveE 6 rfl fun ρ6 y2 e2 S => ?_
    have S := S.sub (τ' := τ) (σ' := [(L, .fr "frame" m0), (L + 1, .cell (some (.ref md))), (br, .list (adrs rs))]) (List.Sublist.append (List.Sublist.cons_cons _ (List.Sublist.cons_cons _ (List.Sublist.cons_cons _ (List.nil_sublist _)))) (.refl _))
    have M6 : Mem a W b ov ρ₁ ρ6 md es := Mk.grow (y1.trans y2)
    have g1 := M6.ext _ _ k1
    have g2 := M6.ext _ _ k2
    have nx : x ≠ dx := fun q => by rw [q, k2] at k1; cases k1
    refine ldL S rfl q1 (sAttrE S g1 g2 (T.kSet b _ rfl) (by ((with_reducible refine oz2 ‹_› ?_); exact rfl)) fun ρ7 z7 s' hz7 hρ7 S => ?_)
    have x7 : ExtB [dx] ρ6 ρ7 := by rw [hρ7]; exact extB_upd _ _ _
    have xN : ExtN ρ6 ρ7 := ExtB.en x7 g2
    refine hOk rk la ([l1] ++ lk ++ [l3]) z7 ρ7 s' hro' ((M6.weak x0).turn O hi x7 g2 hl hnot hdx) (x7 _ _ (notin1 nx) g1) (by rw [hρ7, upd_self]) hz7 (xN _ _ (y2 _ _ e1) (by intro _ _ q; cases q)) ?_ S
    have R6 : RowsAt ρ6 W ([l1] ++ lk ++ [l3]) ([[i]] ++ rk ++ [W.bs i]) :=
      RowsAt.app (RowsAt.app (l1 := [l1]) (r1 := [[i]]) ⟨y2 _ _ (y1 _ _ ekl), trivial⟩ (hrows.ext (y1.trans y2))) ⟨e2, trivial⟩
    exact R6.extN xN
end
end Mine
end
section
open PySem PySem.W PyProof.Rows PySem.Calls
set_option Elab.async false
set_option maxRecDepth 100000
set_option linter.unusedVariables false
set_option linter.unusedSimpArgs false
set_option maxHeartbeats 2000000
namespace Mine
open PySem (Sem Str Value Heap Obj Shared)
section
variable {C : Cx} {a : Adr} {ρ ρ₀ ρ₁ : Wd} {τ σ : Lc} {s : Shared} {A : Around} {E : Value → Shared → Prop} {Q : Flow → Shared → Prop} {l : List Env} {W : Wo} {b : Bool} {ov : Nat → Option (List Nat)} {md : Addr} {es : List (Nat × Addr)} {i n : Nat}
theorem c3_any (T : Text C a) (TR : TextR C a) (O : W.Ok) (hi : W.live i) {x dx br L : Addr} {z : Nat} {m m0 : Mp} (hdx : ρ₀ dx = none) (k1 : ρ x = some (.ins (a.kind b) dx)) (k2 : ρ dx = some (.nsd z m)) (hz : z ≤ 900) (hl : m "leaf" = some (.ref (W.x i)))
    (M : Mem a W b ov ρ₀ ρ md es) (hnot : i ∉ es.map (·.1)) {rs : List Addr} (hrs : ∀ r, r ∈ rs → ∃ j, (j, r) ∈ es)
    (S : St C ρ τ [(L, .fr "frame" m0), (L + 1, .cell (some (.ref md))), (br, .list (adrs rs))] s) (q1 : m0 "self" = some (.ref x)) (q3 : m0 "base_resolvers" = some (.ref br))
    (r : Rm A 10) (hh : A.handled = none)
    (hOk : ∀ (w : Bool) (z' : Nat) (ρ' : Wd) (s' : Shared), Mem a W b ov ρ₀ ρ' md es → ρ' x = some (.ins (a.kind b) dx) → ρ' dx = some (.nsd z' (m.put "bases_had_inconsistency" (.bool w))) → z' ≤ z + 1 → ExtN ρ ρ' →
      St C ρ' τ [(L, .fr "frame" m0), (L + 1, .cell (some (.ref md))), (br, .list (adrs rs))] s' → Q .next s') :
    wpAny C.M A (exec (nthS (clsF 8 4).body 5) (c3E C a L)) Q E s := by
  refine plainObj_wpAny_Assign_Attribute (Call_ (ldB S (T.nog _ rfl) rfl (cwB ?_)))
  refine genexp_St (ρ := ρ) (τ := τ) (σ := [(L, .fr "frame" m0), (L + 1, .cell (some (.ref md))), (br, .list (adrs rs))]) TR.c3Tab TR.b rfl rfl hh r.d (n := rs.length) (F := fun _ v => HadV ρ a v) (ldL S rfl q3 (itList S (S.at 2 rfl) fun I s' S hl' => ?_))
  have hsz : (adrs rs).toArray.size = rs.length := by rw [List.size_toArray, List.length_map]
  have hbr : s'.heap.PlainList br (adrs rs).toArray := S.at 2 rfl
  have hit : (litO br 0).At C s'.heap I := S.ta 0 rfl
  refine ⟨I, [I, br], fun q v => (adrs rs).toArray[q]? = some v, _, litO br 0, rfl, S, fun A' hA' => hsz ▸ Walks.list hA' I br (ne_it_list hbr hit (by decide)) (adrs rs).toArray, ⟨hit, hbr.isList⟩, ?_, ?_, ?_⟩
  · intro p hp
    rcases List.mem_cons.mp hp with rfl | hp
    · exact ⟨fun q => TR.c3Tab.pb (q ▸ (S.loc (p, litO br 0) (List.mem_append_right _ (.head _))).2.1), hit.there⟩
    · cases List.mem_singleton.mp hp
      exact ⟨fun q => TR.c3Tab.pb (q ▸ (S.loc (br, .list (adrs rs)) (List.mem_append_left _ (.tail _ (.tail _ (.head _))))).2.1), (S.at 2 rfl : (AObj.list (adrs rs)).At C s'.heap br).there⟩
  · intro Lg code A' E' q v s1 mg hA' hd hu hPi am here hNs hmv
    have hPi : (adrs rs)[q]? = some v := by simpa using hPi
    obtain ⟨rq, hq, rfl⟩ : ∃ rq, rs[q]? = some rq ∧ v = .ref rq := by
      rw [List.getElem?_map, Option.map_eq_some_iff] at hPi
      obtain ⟨x, e, w⟩ := hPi; exact ⟨x, e, w.symm⟩
    obtain ⟨j, hj⟩ := hrs rq (List.mem_of_getElem? hq)
    have hd' : A'.depth < 1000 := by have := r.1; omega
    refine xAttr (wpAny_Name (wpAny_loadName_local rfl rfl hNs hmv ?_) rfl)
    rcases (M.mem _ hj).2 with ⟨d, z1, m1, t, xs, h1, h2, h3, h4, h5, h6, _⟩ | ⟨dr, R0, h0⟩
    · exact hadStat_ok T am here h1 h2 h6
    · obtain ⟨z1, m1, e1, e2, _, hk, _, hw, hdi, _⟩ := R0
      exact had_ok T TR am here e1 e2 hdi hw hd'
  · intro ag s1 G
    refine any_free G (fun _ v s Q E hF S hq => truthy_had TR S hF hq) fun w s' S => ldL S rfl q1 (sAttr S k1 k2 (T.kSet b _ rfl) (by ((with_reducible refine oz2 ‹_› ?_); exact rfl)) fun s' S => ?_)
    have x7 := extB_upd ρ dx (.nsd (if (m "bases_had_inconsistency").isSome then z else z + 1) (m.put "bases_had_inconsistency" (.bool w)))
    have nx : x ≠ dx := fun q => by rw [q, k2] at k1; cases k1
    exact hOk w _ _ s' (M.turn O hi x7 k2 hl hnot hdx) (x7 _ _ (notin1 nx) k1) (upd_self ..) (by split <;> omega) (ExtB.en x7 k2) S
end
end Mine
end
section
open PySem PySem.W PyProof.Rows PySem.Calls
set_option Elab.async false
set_option maxRecDepth 100000
set_option linter.unusedVariables false
set_option linter.unusedSimpArgs false
set_option maxHeartbeats 2000000
namespace Mine
open PySem (Sem Str Value Heap Obj Shared)
section
variable {C : Cx} {a : Adr} {ρ ρ₀ ρ₁ : Wd} {τ σ : Lc} {s : Shared} {A : Around} {E : Value → Shared → Prop} {Q : Flow → Shared → Prop} {l : List Env} {W : Wo} {b : Bool} {ov : Nat → Option (List Nat)} {md : Addr} {es : List (Nat × Addr)} {i n : Nat}
theorem ext_own {x dx : Addr} {y w : AObj} (hx : ρ₀ x = none) (hdx : ρ₀ dx = none) : Ext ρ₀ (upd (upd ρ₀ dx y) x w) := fun p v e => by
  have h1 : p ≠ x := fun q => by rw [q, hx] at e; cases e
  have h2 : p ≠ dx := fun q => by rw [q, hdx] at e; cases e
  rw [upd_ne _ _ h1, upd_ne _ _ h2]; exact e
theorem c3_last (T : Text C a) (O : W.Ok) (hov : OvOk W ov) (hi : W.live i) {x dx br L : Addr} {z : Nat} {m m0 : Mp} (N : Nodes ρ₀ a.ic W) (hx : ρ₀ x = none) (hdx : ρ₀ dx = none) (k1 : ρ x = some (.ins (a.kind b) dx)) (k2 : ρ dx = some (.nsd z m)) (hz : z ≤ 900) (hl : m "leaf" = some (.ref (W.x i)))
    (M : Mem a W b ov ρ₀ ρ md es) (hnot : i ∉ es.map (·.1)) (hbs : ∀ j, j ∈ W.bs i → ∃ r, (j, r) ∈ es) {rows : List (List Nat)} (hro : rowsO ov (W.bs i) = some rows) {rs : List Addr}
    (S : St C ρ τ [(L, .fr "frame" m0), (L + 1, .cell (some (.ref md))), (br, .list (adrs rs))] s) (q1 : m0 "self" = some (.ref x)) (q2 : m0 "C" = some (.ref (W.x i)))
    (r : Rm A 10) (hh : A.handled = none) (hA : A.frames = some (c3E C a L :: l)) (hF : FrOk τ l)
    (hOk1 : ∀ (xs : List Nat) (lr : Addr) (z' : Nat) (ρ' : Wd) (s' : Shared), (W.bs i).length = 1 → rows = [xs] → xs.length ≤ 6 → Mem a W b ov ρ₀ ρ' md es → ρ' x = some (.ins (a.kind b) dx) → ρ' dx = some (.nsd z' (m.put "_mro" (.ref lr))) → z' ≤ z + 1 → ρ' lr = some (.list (W.refs (i :: xs))) → ExtN ρ ρ' →
      St C ρ' τ [(L, .fr "frame" m0)] s' → Q .next s')
    (hOk0 : ∀ s', (W.bs i).length ≠ 1 → St C ρ τ [(L, .fr "frame" m0)] s' → Q .next s') :
    wpAny C.M A (exec (nthS (clsF 8 4).body 6) (c3E C a L)) Q E s := by
  refine Nodes.el N hi fun dn zn mn tk tb n1 n2 n3 n4 n5 => ?_
  have hbl := O.len i hi
  have lsz : (W.refs (W.bs i)).toArray.size = (W.bs i).length := by rw [List.size_toArray, Wo.refs, List.length_map]
  refine wpAny_If (xCmp (Call_ (ldB S (T.nog _ rfl) rfl (cwB (xAttr (ldL S rfl q2 (gOwn S (M.ext _ _ n1) (M.ext _ _ n2) (T.icOwn _ rfl) n4 fun s' S => len_tuple (S.o (M.ext _ _ n5)) (by rw [lsz]; ((with_reducible refine oz5 ‹_› ?_); exact rfl)) (cInt (S.tok _) fun t s' S => wpAny_eq_int (wpAny_truthy_bool ?_)))))))))
  rw [lsz]
  by_cases h1 : (W.bs i).length = 1
  · have : ((((W.bs i).length : Nat) : Int) == 1) = true := by rw [h1]; rfl
    rw [this, if_pos rfl]
    obtain ⟨j, hj⟩ := List.length_eq_one_iff.mp h1
    have hjm : j ∈ W.bs i := by rw [hj]; exact .head _
    have c := O.cl i hi j hjm
    obtain ⟨rj, hjr⟩ := hbs j hjm
    have M1 := M.own O hi hnot k1 k2 hl
    have x0 : Ext ρ₀ (upd (upd ρ₀ dx (.nsd z m)) x (.ins (a.kind b) dx)) := ext_own hx hdx
    have k3 : upd (upd ρ₀ dx (.nsd z m)) x (.ins (a.kind b) dx) x = some (.ins (a.kind b) dx) := upd_self ..
    have nx : x ≠ dx := fun q => by rw [q, k2] at k1; cases k1
    have k4 : upd (upd ρ₀ dx (.nsd z m)) x (.ins (a.kind b) dx) dx = some (.nsd z m) := by rw [upd_ne _ _ (Ne.symm nx), upd_self]
    generalize upd (upd ρ₀ dx (.nsd z m)) x (.ins (a.kind b) dx) = ρ₁ at M1 x0 k3 k4
    have N1 := N.ext x0
    refine Nodes.el N c.1 fun dj zj mj tkj tbj j1 j2 j3 j4 j5 => ?_
    have hro' := hro
    rw [hj, rowsO] at hro'
    refine xcons (plainObj_wpAny_Assign_Attribute (xBin (eList (ldL S rfl q2 ⟨_, _, _, S, big1, fun l1 s' S => xMeth (xSub (ldC S 1 rfl (xAttr (xSub (xAttr (ldL S rfl q2 (gOwn S (M.ext _ _ n1) (M.ext _ _ n2) (T.icOwn _ rfl) n4 fun s' S => cInt S fun t s' S =>
      sIdxT (v := .ref (W.x j)) (j := 0) (S.o (M.ext _ _ n5)) (by decide) (by decide) (by rw [hj]; rfl) (by rw [hj]; rfl) (gOwn S (M.ext _ _ j1) (M.ext _ _ j2) (T.icOwn _ rfl) j3 fun s' S => sDGet S (S.o M.at_) (memK_get O (fun p hp => (M.mem p hp).1) M.nd hjr) fun s' S => ?_))))))))⟩))))
    refine resMro T O N1 M1 hjr S (r.le (by decide)) hh hA (FrOk.own S rfl hF) ?_ ?_
    · intro xs la ρ' s' ho M' xN S
      rw [ho] at hro'
      have hrows : rows = [xs] := by
        have : some [xs] = some rows := hro'
        exact (Option.some.inj this).symm
      have hxl := hov j c.1 xs ho
      refine oAddL S (S.at 3 rfl) (S.at 4 rfl) (by simp [Wo.refs, Big]; omega) fun lr s' S => ?_
      have er : [Value.ref (W.x i)] ++ W.refs xs = W.refs (i :: xs) := rfl
      rw [er] at S
      refine S.giveE 5 rfl fun ρ5 y1 e1 S => ?_
      have S := S.sub (τ' := τ) (σ' := [(L, .fr "frame" m0)]) (List.Sublist.append (List.Sublist.cons_cons _ (List.nil_sublist _)) (.refl _))
      have M5 := M'.grow y1
      have g1 := M5.ext _ _ k3
      have g2 := M5.ext _ _ k4
      refine ldL S rfl q1 (sAttrE S g1 g2 (T.kSet b _ rfl) (by ((with_reducible refine oz2 ‹_› ?_); exact rfl)) fun ρ7 z7 s' hz7 hρ7 S => ?_)
      have x7 : ExtB [dx] ρ5 ρ7 := by rw [hρ7]; exact extB_upd _ _ _
      have xN7 : ExtN ρ5 ρ7 := ExtB.en x7 g2
      refine wpAny_execs_nil (hOk1 xs lr z7 ρ7 s' h1 hrows hxl.1 ((M5.weak x0).turn O hi x7 g2 hl hnot hdx) (x7 _ _ (notin1 nx) g1) (by rw [hρ7, upd_self]) hz7 (xN7 _ _ e1 (by intro _ _ q; cases q)) ((xN.trans (Ext.en y1)).trans xN7) S)
    · intro hb ho e s' Z
      rw [ho] at hro'
      cases hro'
  · have : ((((W.bs i).length : Nat) : Int) == 1) = false := by
      rw [beq_eq_false_iff_ne]; omega
    rw [this, if_neg Bool.false_ne_true]
    exact wpAny_execs_nil (hOk0 s' h1 (S.sub (List.Sublist.append (List.Sublist.cons_cons _ (List.nil_sublist _)) (.refl _))))
end
end Mine
end
section
open PySem PySem.W PyProof.Rows PySem.Calls
set_option Elab.async false
set_option maxRecDepth 100000
set_option linter.unusedVariables false
set_option linter.unusedSimpArgs false
set_option maxHeartbeats 2000000
namespace Mine
open PySem (Sem Str Value Heap Obj Shared)
section
variable {C : Cx} {a : Adr} {W : Wo} {b : Bool} {ov : Nat → Option (List Nat)}
theorem mkC3_ok (T : Text C a) (TR : TextR C a) (O : W.Ok) (hov : OvOk W ov) : ∀ (n i : Nat), W.live i → W.rk i < n → ∀ {ρ₀ ρ : Wd} {md : Addr} {es : List (Nat × Addr)}, Nodes ρ₀ a.ic W → Mem a W b ov ρ₀ ρ md es → i ∉ es.map (·.1) →
    (∀ j, W.live j → j ∉ es.map (·.1) → ov j = c3v b W ov j) → MkOk C a W b ov ρ₀ ρ md es i (20 + 4 * n)
  | n + 1, i, hi, hn, ρ₀, ρ, md, es, N, M, hnot, hval => by
    intro τ σ s A l R S r hh hA hF hOk hInc
    have hidx : ∀ {es' : List (Nat × Addr)}, (∀ p, p ∈ es → p ∈ es') → ∀ {j : Nat}, j ∉ es'.map (·.1) → j ∉ es.map (·.1) := by
      intro es' hs j hj q
      obtain ⟨p, hp, e⟩ := List.mem_map.mp q
      exact hj (e ▸ List.mem_map_of_mem (f := (·.1)) (hs p hp))
    refine mk_St S (T.mkKind b) fun x dx s' nx nd hne S => ?_
    have r1 := Rm.mk (n := 23 + 4 * n) (r.le (by omega)) (a.kind b) [.ref (W.x i), .ref md] []
    have hh1 : (A.under (.builtin "type.__call__" ⟨[.ref (a.kind b), .ref (W.x i), .ref md], []⟩)).handled = none := by rw [under_mk]; exact hh
    have hA1 : (A.under (.builtin "type.__call__" ⟨[.ref (a.kind b), .ref (W.x i), .ref md], []⟩)).frames = some l := by rw [under_mk]; exact hA
    generalize A.under (.builtin "type.__call__" ⟨[.ref (a.kind b), .ref (W.x i), .ref md], []⟩) = A1 at r1 hh1 hA1 ⊢
    have x1 : Ext ρ (upd (upd ρ dx (.nsd 0 fun _ => none)) x (.ins (a.kind b) dx)) := ext_own nx nd
    have f1 : upd (upd ρ dx (.nsd 0 fun _ => none)) x (.ins (a.kind b) dx) x = some (.ins (a.kind b) dx) := upd_self ..
    have f2 : upd (upd ρ dx (.nsd 0 fun _ => none)) x (.ins (a.kind b) dx) dx = some (.nsd 0 fun _ => none) := by rw [upd_ne _ _ (Ne.symm hne), upd_self]
    generalize upd (upd ρ dx (.nsd 0 fun _ => none)) x (.ins (a.kind b) dx) = ρ1 at S x1 f1 f2
    refine enterCE S TR.c3Code r1.d (binds := [("self", .ref x), ("C", .ref (W.x i)), ("memo", .ref md)]) (fun _ _ _ _ _ => BindsTo.of_eq rfl) fun L s' S => ?_
    refine pk3 (P1 := fun (m0 : Mp) => St C ρ1 (σ ++ τ) [(L, .fr "frame" m0), (L + 1, .cell (some (.ref md)))] s') (P2 := fun (m0 : Mp) => m0 "self" = some (.ref x)) (P3 := fun (m0 : Mp) => m0 "C" = some (.ref (W.x i))) _ (S) (rfl) (rfl) fun m0 S q1 q2 => ?_
    have r2 : Rm (A1.deeper (c3E C a L)) (22 + 4 * n) := Rm.deeper (n := 22 + 4 * n) (r1.le (by omega)) _
    have hh2 : (A1.deeper (c3E C a L)).handled = none := hh1
    have hA2 : (A1.deeper (c3E C a L)).frames = some (c3E C a L :: l) := Around.frames_deeper hA1
    refine xcons (plainObj_wpAny_Assign_Attribute (ldL S rfl q2 (ldL S rfl q1 (sAttrE S f1 f2 (T.kSet b _ rfl) (by decide) fun ρ2 z2 s' hz2 hρ2 S => ?_))))
    have g1 : ρ2 x = some (.ins (a.kind b) dx) := by rw [hρ2, upd_ne _ _ hne]; exact f1
    have g2 : ρ2 dx = some (.nsd z2 (Mp.put (fun _ => none) "leaf" (.ref (W.x i)))) := by rw [hρ2, upd_self]
    refine xcons (plainObj_wpAny_Assign_Attribute (ldC S 1 rfl (ldL S rfl q1 (sAttr S g1 g2 (T.kSet b _ rfl) (by ((with_reducible refine oz2 ‹_› ?_); exact rfl)) fun s' S => ?_))))
    obtain ⟨z3, hz3, ρ3, hρ3, S⟩ : ∃ z3, z3 ≤ 2 ∧ ∃ ρ3, ρ3 = upd ρ2 dx (.nsd z3 (Mp.put (Mp.put (fun _ => none) "leaf" (.ref (W.x i))) "memo" (.ref md))) ∧ St C ρ3 _ _ s' := ⟨_, by split <;> omega, _, rfl, S⟩
    have k1 : ρ3 x = some (.ins (a.kind b) dx) := by rw [hρ3, upd_ne _ _ hne]; exact g1
    have k2 : ρ3 dx = some (.nsd z3 (Mp.put (Mp.put (fun _ => none) "leaf" (.ref (W.x i))) "memo" (.ref md))) := by rw [hρ3, upd_self]
    have x3 : Ext ρ ρ3 := fun p y e => by
      have np : p ≠ dx := fun q => by rw [q, nd] at e; cases e
      rw [hρ3, upd_ne _ _ np, hρ2, upd_ne _ _ np]; exact x1 _ _ e
    have nx0 : ρ₀ x = none := by
      cases q : ρ₀ x with
      | none => rfl
      | some y => have := M.ext _ _ q; rw [nx] at this; cases this
    have nd0 : ρ₀ dx = none := by
      cases q : ρ₀ dx with
      | none => rfl
      | some y => have := M.ext _ _ q; rw [nd] at this; cases this
    have hleaf : (Mp.put (Mp.put (fun _ => none) "leaf" (.ref (W.x i))) "memo" (.ref md)) "leaf" = some (.ref (W.x i)) := rfl
    have hk3 : KDom (Mp.put (Mp.put (fun _ => none) "leaf" (.ref (W.x i))) "memo" (.ref md)) := KDom.put (KDom.put (fun _ _ => rfl) rfl) rfl
    have M3 := (M.grow x3).own O hi hnot k1 k2 hleaf
    have x0 : Ext ρ₀ (upd (upd ρ₀ dx (.nsd z3 (Mp.put (Mp.put (fun _ => none) "leaf" (.ref (W.x i))) "memo" (.ref md)))) x (.ins (a.kind b) dx)) := ext_own nx0 nd0
    have k3 : upd (upd ρ₀ dx (.nsd z3 (Mp.put (Mp.put (fun _ => none) "leaf" (.ref (W.x i))) "memo" (.ref md)))) x (.ins (a.kind b) dx) x = some (.ins (a.kind b) dx) := upd_self ..
    have k4 : upd (upd ρ₀ dx (.nsd z3 (Mp.put (Mp.put (fun _ => none) "leaf" (.ref (W.x i))) "memo" (.ref md)))) x (.ins (a.kind b) dx) dx = some (.nsd z3 (Mp.put (Mp.put (fun _ => none) "leaf" (.ref (W.x i))) "memo" (.ref md))) := by rw [upd_ne _ _ (Ne.symm hne), upd_self]
    generalize upd (upd ρ₀ dx (.nsd z3 (Mp.put (Mp.put (fun _ => none) "leaf" (.ref (W.x i))) "memo" (.ref md)))) x (.ins (a.kind b) dx) = ρ₁ at M3 x0 k3 k4
    have N1 := N.ext x0
    refine xcons (xAsg (eList ⟨_, _, _, S, Nat.zero_le _, fun br s' S => stL S rfl fun s' S => ?_⟩))
    refine pk4 (P1 := fun (m1 : Mp) => St C ρ3 (σ ++ τ) [(L, .fr "frame" m1), (L + 1, .cell (some (.ref md))), (br, .list [])] s') (P2 := fun (m1 : Mp) => m1 "self" = some (.ref x)) (P3 := fun (m1 : Mp) => m1 "C" = some (.ref (W.x i))) (P4 := fun (m1 : Mp) => m1 "base_resolvers" = some (.ref br)) _ (S) (q1) (q2) (rfl) fun m1 S u1 u2 u3 => ?_
    have out : b = true → rowsO ov (W.bs i) = none → ∀ (e : Addr) (m : Mp) (fl : Value) (s' : Shared), Rz C ρ₀ (σ ++ τ) [(L, .fr "frame" m)] e (.ref a.inc) (some fl) s' →
        wpAny C.M (A1.deeper (c3E C a L)) (leaving (c3E C a L) (.ref e)) (fun _ s'' => InitBack x R (.error (.ref e)) s'') (fun e' s'' => InitBack x R (.error e') s'') s' := fun hb hno e m fl s' Z =>
      leave_St hA2 (FrOk.own Z.1 rfl hF) rfl Z fun s' Z => hInc hb hno e s' Z.forget.back
    refine xcons (c3_for (n := 20 + 4 * n) T O hi N1 x0 k3 k4 hk3 M3 hval (fun j ρ' es' hj M' hs hnj => mkC3_ok T TR O hov n j (O.cl i hi j hj).1 (Nat.lt_of_lt_of_le (O.cl i hi j hj).2 (Nat.le_of_lt_succ hn)) N1 M' hnj fun j' hj' hn' => hval j' hj' (hidx hs hn')) S u1 u2 u3 (r2.le (by omega)) hh2 hA2 hF ?_ out)
    intro m2 ρ4 es4 rs s' v1 v2 v3 M4 hsub hlow hlen hrs S
    have hnot4 : i ∉ es4.map (·.1) := fun q => by
      obtain ⟨p, hp, e⟩ := List.mem_map.mp q
      rcases hlow p hp with h | h
      · exact hnot (e ▸ List.mem_map_of_mem (f := (·.1)) h)
      · rw [e] at h; exact Nat.lt_irrefl _ h
    have hbs : ∀ j, j ∈ W.bs i → ∃ r, (j, r) ∈ es4 := fun j hj => by
      obtain ⟨k, hk⟩ := List.mem_iff_getElem?.mp hj
      have hlt := (List.getElem?_eq_some_iff.mp hk).1
      exact ⟨_, hrs k j _ hk (List.getElem?_eq_getElem (by omega))⟩
    have hrs' : ∀ r, r ∈ rs → ∃ j, (j, r) ∈ es4 := fun r hr => by
      obtain ⟨k, hk⟩ := List.mem_iff_getElem?.mp hr
      have hlt := (List.getElem?_eq_some_iff.mp hk).1
      exact ⟨_, hrs k _ r (List.getElem?_eq_getElem (by omega)) hk⟩
    refine xcons (c3_tree T O hov hi N1 x0 nd0 k3 k4 (by ((with_reducible refine oz2 ‹_› ?_); exact rfl)) hleaf M4 hnot4 hlen hrs S v1 v2 (r2.le (by omega)) hh2 hA2 hF ?_ out)
    intro rows la ls z5 ρ5 s' hro M5 e5x e5d hz5 e5l h5 S
    have wf := rowsO_wf hov (fun j hj => (O.cl i hi j hj).1) hro
    refine xcons (c3_any T TR O hi nd0 e5x e5d (by ((with_reducible refine oz9 ‹_› ‹_› ?_); exact rfl)) rfl M5 hnot4 hrs' S v1 v3 (r2.le (by omega)) hh2 ?_)
    intro w z6 ρ6 s' M6 e6x e6d hz6 xN6 S
    have h6 := h5.extN xN6
    have e6l := xN6 _ _ e5l (by intro _ _ q; cases q)
    have hov' : ov i = c3v b W ov i := hval i hi hnot
    have hk5 : KDom (Mp.put (Mp.put (Mp.put (Mp.put (fun _ => none) "leaf" (.ref (W.x i))) "memo" (.ref md)) "base_tree" (.ref la)) "bases_had_inconsistency" (.bool w)) := KDom.put (KDom.put hk3 rfl) rfl
    have hbl := O.len i hi
    refine xcons (c3_last T O hov hi N nx0 nd0 e6x e6d (by omega) rfl M6 hnot4 hbs hro S v1 v2 (r2.le (by omega)) hh2 hA2 hF ?_ ?_)
    · intro xs lr z7 ρ7 s' h1 hrows hx6 M7 e7x e7d hz7 e7l xN7 S
      have ho : ov i = some (i :: xs) := by rw [hov', c3v, hro]; dsimp only; rw [if_pos h1, hrows]; rfl
      refine wpAny_execs_nil ⟨rfl, hOk x dx ρ7 es4 s' ⟨M7, hsub, hlow, ?_, nd0, by rw [hro]; rfl⟩ S.forget.back0⟩
      exact ⟨z7, _, e7x, e7d, by omega, hk5.put rfl, rfl, ⟨w, rfl⟩, .inl rfl, .inl ⟨lr, i :: xs, ho, by rw [List.length_cons]; ((with_reducible refine oz1 ‹_› ?_); exact rfl), rfl, .inr e7l⟩⟩
    · intro s' h1 S
      have ho : ov i = vOf b W i ([[i]] ++ rows ++ [W.bs i]) := by rw [hov', c3v, hro]; dsimp only; rw [if_neg h1]
      refine wpAny_execs_nil ⟨rfl, hOk x dx ρ6 es4 s' ⟨M6, hsub, hlow, ?_, nd0, by rw [hro]; rfl⟩ S.forget.back0⟩
      have htot : totL ([[i]] ++ rows ++ [W.bs i]) = 1 + totL rows + (W.bs i).length := by simp [totL, Nat.add_assoc]
      refine ⟨z6, _, e6x, e6d, by omega, hk5, rfl, ⟨w, rfl⟩, .inl rfl, .inr ⟨rfl, rfl, by omega, la, ls, [[i]] ++ rows ++ [W.bs i], rfl, e6l, h6, ⟨?_, ?_, ?_⟩, by omega, ho⟩⟩
      · rw [List.length_append, List.length_append, wf.1]; simp [Big]; omega
      · rw [htot]; show _ ≤ 100000; omega
      · intro r hr
        rcases List.mem_append.mp hr with hr | hr
        · rcases List.mem_append.mp hr with hr | hr
          · cases List.mem_singleton.mp hr
            exact ⟨big1, fun k hk => by cases List.mem_singleton.mp hk; exact hi⟩
          · exact ⟨Nat.le_trans (wf.2.2 r hr).1 (by decide), (wf.2.2 r hr).2⟩
        · cases List.mem_singleton.mp hr
          exact ⟨Nat.le_trans hbl (by decide), fun k hk => (O.cl i hi k hk).1⟩
end
end Mine
end
section
open PySem PySem.W PyProof.Rows PySem.Calls
set_option Elab.async false
set_option maxRecDepth 100000
set_option linter.unusedVariables false
set_option linter.unusedSimpArgs false
namespace Mine
open PySem (Sem Str Value Heap Obj Shared)
structure EqK (K : Frag) (Cl : Addr) : Prop where
  f : findIn K (.ref Cl) "__eq__" = some (some (.builtin "object.__eq__"))
  s : subIn K (.ref Cl) (.type "object") = some true
section
variable {prog : Program} {w : World} {K : Frag} {A : Around} {E : Value → Shared → Prop} {s : Shared} {Cl x y : Addr} {ox oy : Obj}
theorem check_slot_K {M : Model} {id owner n : String} {rest : List Value} {Q : Unit → Shared → Prop} (hk : builtinKind id = some .slot) (hs : splitId id = some (owner, n))
    (ha : argsOk id ⟨.ref x :: rest, []⟩) (hin : Looks M s.heap (isInstance (.ref x) (.type owner)) true) (hq : Q () s) : wpAny M A (checkBuiltinCall id ⟨.ref x :: rest, []⟩) Q E s := by
  simp only [checkBuiltinCall, hk, hs]
  refine wpAny_bind (hin.here ?_)
  cases hsig : Manifest.signature? id with
  | none => exact wpAny_pure hq
  | some sig =>
    simp only [argsOk, hsig] at ha
    have h2 : Bind.checkArgs id sig ⟨.ref x :: rest, []⟩ = pure () := ha
    show wpAny M A (Bind.checkArgs id sig ⟨.ref x :: rest, []⟩) Q E _
    rw [h2]; exact wpAny_pure hq
theorem special_eq_K (P : EqK K Cl) (X : K.In s.heap) (hx : s.heap.get? x = some ox) (cx : ox.cls = .ref Cl) (hy : s.heap.get? y = some oy) (hxy : x ≠ y) {Q : Option Value → Shared → Prop} (hq : Q (some .notImplemented) s) :
    wpAny (model prog w) A (callSpecialIfBound? (.ref x) "__eq__" [.ref y]) Q E s := by
  have hsp : Looks (model prog w) s.heap (specialOf (.ref x) "__eq__") (some (.builtin "object.__eq__")) := by
    unfold specialOf
    exact (cx ▸ (Looks.ld hx).andThen .now : Looks (model prog w) s.heap (typeOf (.ref x)) (.ref Cl)).andThen (looks_findIn X P.f)
  have hin : Looks (model prog w) s.heap (isInstance (.ref x) (.type "object")) true :=
    (cx ▸ (Looks.ld hx).andThen .now : Looks (model prog w) s.heap (typeOf (.ref x)) (.ref Cl)).andThen (looks_subIn X P.s)
  obtain ⟨h, g, d, t, os⟩ := s
  have hcall : wpAny (model prog w) A (call (.builtin "object.__eq__") [.ref x, .ref y]) (fun v s' => Q (some v) s') E ⟨h, g, d, t, os⟩ := by
    refine wpAny_call (codeAny_call_builtin PySem.F.cmp_object.eq.plain PySem.F.cmpEntry_eq ?_)
    exact check_slot_K PySem.F.cmpKind_eq PySem.F.cmpSplit_eq (PySem.F.cmpArgs_eq _ _) hin (objEq_entry_other hxy hx hy (by rw [cx]; exact fun q => nomatch q) hq)
  simp only [callSpecialIfBound?, bindSpecialIfBound?]
  refine wpAny_holding (wpAny_bind (wpAny_bind (hsp.here ?_)))
  simp only [PySem.F.cmp_object.eq.bind]
  have fin : wpAny (model prog w) A (call (.builtin "object.__eq__") ([.ref x] ++ [.ref y]) >>= fun v => pure (some v)) Q E ⟨h, g, d, t, os⟩ :=
    wpAny_bind (wpAny_mono hcall (fun v s' h' => wpAny_pure h') fun _ _ h' => h')
  refine wpAny_bind (wpAny_askSetting (wpAny_ite ?_))
  split
  · exact wpAny_bind (wpAny_pure (wpAny_pure fin))
  · exact wpAny_tryCatch (wpAny_bind (wpAny_pure (wpAny_pure fin)))
theorem tryCompare_K (P : EqK K Cl) (X : K.In s.heap) (hx : s.heap.get? x = some ox) (cx : ox.cls = .ref Cl) (hy : s.heap.get? y = some oy) (hxy : x ≠ y) {Q : Option Value → Shared → Prop} (hq : Q none s) :
    wpAny (model prog w) A (tryCompare (.ref x) "__eq__" (.ref y)) Q E s := by
  simp only [tryCompare]
  exact wpAny_bind (special_eq_K P X hx cx hy hxy (wpAny_pure hq))
theorem rich_K (P : EqK K Cl) (X : K.In s.heap) (hx : s.heap.get? x = some ox) (cx : ox.cls = .ref Cl) (hy : s.heap.get? y = some oy) (cy : oy.cls = .ref Cl) (hxy : x ≠ y) (hu : A.units < cLine) : SeqAt.RcAt A s (.ref x) (.ref y) false := by
  intro prog w E Q hq
  have tx : Looks (model prog w) s.heap (typeOf (.ref x)) (.ref Cl) := cx ▸ (Looks.ld hx).andThen .now
  have ty : Looks (model prog w) s.heap (typeOf (.ref y)) (.ref Cl) := cy ▸ (Looks.ld hy).andThen .now
  simp only [richCompare, cmpInfo_Eq, oneThing_ref]
  refine wpAny_holding (wpAny_bind (wpAny_cRoomFor hu ?_))
  refine wpAny_bind (tx.here (wpAny_bind (ty.here ?_)))
  rw [if_neg (by simp)]
  refine wpAny_bind (wpAny_pure ?_)
  simp only [Bool.false_eq_true, if_false, Bool.not_false, if_true]
  refine wpAny_bind (tryCompare_K P X hx cx hy hxy ?_)
  refine wpAny_bind (tryCompare_K P X hy cy hx (Ne.symm hxy) ?_)
  refine wpAny_bind (wpAny_rule (wpAny_bind (wpAny_isSame_ref_other hxy hx hy (by rw [cx]; exact fun q => nomatch q) ?_)))
  exact wpAny_pure hq
end
end Mine
end
section
open PySem PySem.W PyProof.Rows PySem.Calls
set_option Elab.async false
set_option maxRecDepth 100000
set_option linter.unusedVariables false
set_option linter.unusedSimpArgs false
namespace Mine
open PySem (Sem Str Value Heap Obj Shared)
structure StatC (K : Frag) (Cl : Addr) (name : Str) (f : Addr) : Prop where
  sp : specialIn K (.ref Cl) "__getattribute__" = some (some (.builtin "type.__getattribute__"))
  it : ∃ mc p rest, readsIn K Cl mc = true ∧ findCls K (.ref Cl) mc name = some (.get (.builtin "staticmethod.__get__") (.ref p) .none (.ref Cl)) ∧ recIn K p "staticmethod" = some (.ref f :: rest)
structure FnC (K : Frag) (Cl : Addr) (name : Str) (f : Addr) : Prop where
  sp : specialIn K (.ref Cl) "__getattribute__" = some (some (.builtin "type.__getattribute__"))
  it : ∃ mc, readsIn K Cl mc = true ∧ findCls K (.ref Cl) mc name = some (.val (.ref f))
section
variable {C : Cx} {ρ : Wd} {τ σ : Lc} {s : Shared} {A : Around} {E : Value → Shared → Prop} {env : Env} {pos : Pos} {name : Str}
theorem gStatC {Cl f : Addr} {pl : Sem Bool} {Q : Value × List Value → Shared → Prop} (S : St C ρ τ σ s) (P : StatC C.K Cl name f) (h : ∀ s', St C ρ τ σ s' → Q (.ref f, []) s') : wpAny C.M A (getMethod (.ref Cl) name pl) Q E s := by
  obtain ⟨mc, p, rest, h1, h2, h3⟩ := P.it
  exact method_cls S.amb.x P.sp (cls_bind S.amb.x h1 h2 (wpAny_call (sm_get (s := { s with toks := s.toks + 1 }) S.amb.x h3 (handed_on rfl (h _ (S.tok _))))))
theorem gFnC {Cl f : Addr} {pl : Sem Bool} {Q : Value × List Value → Shared → Prop} (S : St C ρ τ σ s) (P : FnC C.K Cl name f) (h : ∀ s', St C ρ τ σ s' → Q (.ref f, []) s') : wpAny C.M A (getMethod (.ref Cl) name pl) Q E s := by
  obtain ⟨mc, h1, h2⟩ := P.it
  exact method_cls S.amb.x P.sp (cls_value S.amb.x h1 h2 rfl (h _ (S.tok _)))
theorem cwKw1 {f : Addr} {e kv : Expr} {x : Str} {kp : Pos} {Q : Value → Shared → Prop} (hk : keepIn C.K (.ref f) = true)
    (h : wpAny C.M A (eval e env) (fun v s₁ => wpAny C.M A (eval kv env) (fun w s₂ => C.K.In s₂.heap ∧ wpAny C.M A (call (.ref f) [v] [(x, w)]) Q E s₂) E s₁) E s) (hp : plainE e = true := by rfl) :
    wpAny C.M A (callWith pos (.ref f) [] (backTo pos (starEach [e] env)) (backToKw pos (keywordEach [⟨some x, kv, kp⟩] env))) Q E s := by
  have he : starEach [e] env = (false, eval e env) :: starEach [] env := by cases e <;> first | rfl | cases hp
  refine callWith_of (P := fun h => C.K.In h) ?_ (fun h X => keeps_K hk h X) ?_
  · rw [he]; rfl
  · refine evalArgs_kw2 rfl ?_ he
    refine spliced_more (wpAny_mono h (fun v s₁ h₁ => spliced_none ?_) fun _ _ x => x) he
    refine evalAll_cons ?_
    show wpAny C.M A (do let v ← eval kv env; standAt pos; pure v) _ _ _
    refine wpAny_bind (wpAny_mono h₁ (fun w s₂ h₂ => ?_) fun _ _ x => x)
    exact wpAny_bind (wpAny_standAt (wpAny_pure (evalAll_nil h₂)))
theorem CallKw_ {f : Expr} {es : List Expr} {kws : List Keyword} {Q : Value → Shared → Prop} (h : wpAny C.M A (eval f env) (fun fv s₁ => wpAny C.M A (callWith pos fv [] (backTo pos (starEach es env)) (backToKw pos (keywordEach kws env))) Q E s₁) E s)
    (he : eval (.Call f es kws pos) env = (do let fv ← eval f env; callWith pos fv [] (backTo pos (starEach es env)) (backToKw pos (keywordEach kws env))) := by rfl) :
    wpAny C.M A (eval (.Call f es kws pos) env) Q E s := by
  rw [he]; exact wpAny_bind h
theorem oInT {W : Wo} {IC : Addr} {l : List Nat} {t : Addr} {j : Nat} {Q : Value → Shared → Prop} (O : W.Ok) (P : EqK C.K IC) (N : Nodes ρ IC W) (S : St C ρ τ σ s) (ht : ρ t = some (.tup (W.refs l))) (hl : ∀ k, k ∈ l → W.live k) (hj : W.live j) (hu : A.units + 1 < cLine)
    (h : Q (.bool (l.contains j)) s) : wpAny C.M A (compareOp .In (.ref (W.x j)) (.ref t)) Q E s := by
  have ht : IsTup s.heap t (W.refs l).toArray := S.o ht
  obtain ⟨o, ho, hc, n, hd⟩ := ht
  have key : ∀ y, y ∈ (W.refs l).toArray → SeqAt.EqAt A.in1 s y (.ref (W.x j)) (y == .ref (W.x j)) := by
    intro y hy
    have hy : y ∈ W.refs l := by simpa using hy
    obtain ⟨k, hk, rfl⟩ := List.mem_map.mp hy
    by_cases q : k = j
    · subst q
      rw [beq_self_eq_true]
      exact SeqAt.EqAt.same _
    · have ne : W.x k ≠ W.x j := fun e => q (O.inj k j (hl k hk) hj e)
      have : (Value.ref (W.x k) == Value.ref (W.x j)) = false := by rw [beq_eq_false_iff_ne]; exact fun e => ne (Value.ref.inj e)
      rw [this]
      obtain ⟨_, _, _, _, _, a1, _⟩ := N k (hl k hk)
      obtain ⟨_, _, _, _, _, a2, _⟩ := N j hj
      obtain ⟨ox, g1, g2, _⟩ := S.o a1
      obtain ⟨oy, g3, g4, _⟩ := S.o a2
      exact SeqAt.EqAt.of_refs ne (rich_K P S.amb.x g1 g2 g3 g4 ne hu)
  refine SeqAt.in_tupleAt (fun y => y == .ref (W.x j)) ⟨o, ho, hc, n, hd⟩ key ?_
  have : (W.refs l).toArray.any (fun y => y == .ref (W.x j)) = l.contains j := by
    rw [List.any_toArray, Wo.refs, List.any_map]
    rw [List.contains_eq_any_beq]
    refine Bool.eq_iff_iff.mpr ?_
    rw [List.any_eq_true, List.any_eq_true]
    refine ⟨fun ⟨k, hk, e⟩ => ⟨k, hk, ?_⟩, fun ⟨k, hk, e⟩ => ⟨k, hk, ?_⟩⟩
    · have e : Value.ref (W.x k) = Value.ref (W.x j) := by simpa using e
      rw [O.inj k j (hl k hk) hj (Value.ref.inj e)]; simp
    · have e : j = k := by simpa using e
      rw [e]; simp
  rw [this]
  exact h
end
end Mine
end
section
open PySem PySem.W PyProof.Rows PySem.Calls
set_option Elab.async false
set_option maxRecDepth 100000
set_option linter.unusedVariables false
set_option linter.unusedSimpArgs false
namespace Mine
open PySem (Sem Str Value Heap Obj Shared)
section
variable {C : Cx} {ρ : Wd} {τ σ : Lc} {s : Shared} {A : Around} {E : Value → Shared → Prop} {env : Env} {pos : Pos}
theorem ownGoL {elts : List Expr} {x1} {I l T : Addr} {i : Nat} {Q : Unit → Shared → Prop} (hit : (litO l i).At C s.heap I) (hQ : Q () s) : wpAny C.M A (letOwnedTupleGo (.Tuple elts x1 pos) (.ref I) (.ref T)) Q E s :=
  wpAny_letOwnedTupleGo_listiter (i := i) hit hQ
theorem ownGoT {elts : List Expr} {x1} {I l T : Addr} {i : Nat} {Q : Unit → Shared → Prop} (hit : (titO l i).At C s.heap I) (hQ : Q () s) : wpAny C.M A (letOwnedTupleGo (.Tuple elts x1 pos) (.ref I) (.ref T)) Q E s := by
  obtain ⟨o, ho, hc, hd⟩ := hit
  unfold letOwnedTupleGo
  refine wpAny_bind (wpAny_load ho ?_)
  rw [hc, hd]
  show wpAny _ A (if (["enumerate", "zip", "dict_itemiterator", "dict_reverseitemiterator", "odict_iterator", "itertools.zip_longest", "itertools.pairwise"].contains "tuple_iterator" &&
      (#[.ref l, .int i 0] : Array Value)[0]? == some (rawInt T)) = true then _ else _) Q E s
  rw [if_neg (by simp)]
  exact wpAny_pure hQ
theorem asgTup2 {fc : String} {m : Mp} {x y : Str} {px py : Pos} {k} {t : Addr} {v w : Value} {Q : Unit → Shared → Prop} {L : Addr} (S : St C ρ τ ((L, .fr fc m) :: σ) s) (e : env.locals = L) (ht : IsTup s.heap t [v, w].toArray) (hh : A.handled = none)
    (h : ∀ s', St C ρ τ ((L, .fr fc ((m.put x v).put y w)) :: σ) s' → Q () s') (hx : env.kindOf x = some .local := by rfl) (hy : env.kindOf y = some .local := by rfl)
    (hp : (env.scope.kind == .class || (env.scope.kind == .module && env.locals != env.globals)) = false := by rfl) :
    wpAny C.M A (assign (.Tuple [.Name x px, .Name y py] k pos) env (.ref t)) Q E s := by
  refine assign_Tuple_tuple hh ht rfl rfl fun h' hx' => ?_
  have S1 : St C ρ τ ((L, .fr fc m) :: σ) { s with heap := h' } := S.chg (none_size _) ⟨hx', rfl, fun x => x⟩
  refine assignInOrder_cons (wpAny_assign_Name (stL S1 e (fun s' S => ?_) hx hp))
  exact assignInOrder_cons (wpAny_assign_Name (stL S e (fun s' S => assignInOrder_nil (h s' S)) hy hp))
end
end Mine
end
section
open PySem PySem.W PyProof.Rows PySem.Calls
set_option Elab.async false
set_option genSizeOf false
set_option genInjectivity false
set_option maxRecDepth 100000
set_option linter.unusedVariables false
set_option linter.unusedSimpArgs false
set_option maxHeartbeats 2000000
namespace Mine
open PySem (Sem Str Value Heap Obj Shared)
structure TextO (C : Cx) (a : Adr) : Prop where
  fRes : FnAt C.K a.resolver "C3.resolver" (clsF 8 0) .none
  resC : StatC C.K a.c3 "resolver" a.resolver
  fRo : FnAt C.K a.ro "ro" (topF 10) (.ref a.roDef)
  roD : ∃ o n, C.K.lookup a.roDef = some o ∧ o.data = .seq #[.none, .none, .none, .none] n
  icEq : EqK C.K a.ic
noncomputable def PairsAt (ρ : Wd) (W : Wo) (ov : Nat → Option (List Nat)) : List Addr → List Nat → Prop
  | [], [] => True
  | t :: ts, j :: l => (∃ s xs, ρ t = some (.tup [.ref (W.x j), .ref s]) ∧ ρ s = some (.tup (W.refs xs)) ∧ ov j = some xs) ∧ PairsAt ρ W ov ts l
  | _, _ => False
theorem PairsAt.len {ρ : Wd} {W : Wo} {ov : Nat → Option (List Nat)} : ∀ {ts : List Addr} {l : List Nat}, PairsAt ρ W ov ts l → ts.length = l.length
  | [], [], _ => rfl
  | _ :: _, _ :: _, h => congrArg (· + 1) h.2.len
theorem PairsAt.get {ρ : Wd} {W : Wo} {ov : Nat → Option (List Nat)} : ∀ {ts : List Addr} {l : List Nat} {k : Nat} {t : Addr}, PairsAt ρ W ov ts l → ts[k]? = some t → ∃ j s xs, l[k]? = some j ∧ ρ t = some (.tup [.ref (W.x j), .ref s]) ∧ ρ s = some (.tup (W.refs xs)) ∧ ov j = some xs
  | _ :: _, j :: _, 0, _, h, e => by cases e; obtain ⟨⟨s, xs, a, b, c⟩, _⟩ := h; exact ⟨j, s, xs, rfl, a, b, c⟩
  | _ :: ts, _ :: l, k + 1, t, h, e => PairsAt.get (ts := ts) (l := l) (k := k) h.2 e
section
variable {C : Cx} {a : Adr} {ρ : Wd} {τ σ : Lc} {s : Shared} {A : Around} {E : Value → Shared → Prop} {R : Result → Shared → Prop} {l : List Env} {W : Wo} {b : Bool} {ov : Nat → Option (List Nat)} {i : Nat}
structure RvS where
  m : Mp
  ρ : Wd
  es : List (Nat × Addr)
inductive RvN1 (C : Cx) (ρ : Wd) (τ : Lc) (L : Addr) (W : Wo) (i : Nat) (b : Bool) (bm : Value) (f : Flow) (s' : Shared) : Prop
  | mk (e : f = .next) (m1 : Mp) (S : St C ρ τ [(L, .fr "frame" m1)] s') (h1 : m1 "C" = some (.ref (W.x i))) (h2 : m1 "strict" = some (.bool b)) (h3 : m1 "base_mros" = some bm) : RvN1 C ρ τ L W i b bm f s'
inductive RvN2 (C : Cx) (τ : Lc) (L : Addr) (W : Wo) (i : Nat) (b : Bool) (md : Addr) (ρ1 : Wd) (ts : List Addr) (f : Flow) (s' : Shared) : Prop
  | mk (e : f = .next) (m3 : Mp) (ρ2 : Wd) (lm : Addr) (S : St C ρ2 τ [(L, .fr "frame" m3)] s') (h1 : m3 "C" = some (.ref (W.x i))) (h2 : m3 "strict" = some (.bool b)) (h3 : m3 "base_mros" = some (.ref lm)) (h4 : m3 "memo" = some (.ref md))
      (x : Ext ρ1 ρ2) (h5 : ρ2 lm = some (.list (adrs ts))) : RvN2 C τ L W i b md ρ1 ts f s'
structure RvP (W : Wo) (ov : Nat → Option (List Nat)) (i : Nat) (b : Bool) (md lm : Addr) (a : Adr) (ρ : Wd) (bl : List Nat) (ts : List Addr) (k : Nat) (y : RvS) : Prop where
  f1 : y.m "C" = some (.ref (W.x i))
  f2 : y.m "strict" = some (.bool b)
  f3 : y.m "memo" = some (.ref md)
  f4 : Mem a W b ov ρ y.ρ md y.es
  f5 : y.es.map (·.1) = bl.take k
  f6 : y.ρ lm = some (.list (adrs ts))
theorem resolver_ok (T : Text C a) (TR : TextR C a) (TO : TextO C a) (O : W.Ok) (hov : OvOk W ov) (N : Nodes ρ a.ic W) (hi : W.live i) {bl : List Nat} {ts : List Addr} {bm : Value}
    (hbm : (bm = .none ∧ bl = [] ∧ ts = []) ∨ ∃ lm, bm = .ref lm ∧ ρ lm = some (.list (adrs ts))) (hp : PairsAt ρ W ov ts bl) (hbl : ∀ j, j ∈ bl → j ∈ W.bs i) (hnd : bl.Nodup)
    (hval : ∀ j, W.live j → j ∉ bl → ov j = c3v b W ov j)
    (S : St C ρ τ σ s) (r : Rm A 50) (hh : A.handled = none) (hA : A.frames = some l) (hF : FrOk (σ ++ τ) l)
    (hOk : ∀ x dx ρ' s', Ext ρ ρ' → RsAt ρ' a W b x dx i (ov i) → ρ dx = none → (rowsO ov (W.bs i)).isSome = true → St C ρ' τ σ s' → R (.ok (.ret (.ref x))) s')
    (hInc : b = true → rowsO ov (W.bs i) = none → ∀ e s', Rz C ρ τ σ e (.ref a.inc) (some .none) s' → R (.error (.ref e)) s') :
    codeAny C.M A (.call (.ref a.resolver) ⟨[.ref (W.x i), (if b then .bool true else .none), bm], []⟩) R s := by
  have hbl5 : bl.length ≤ 6 := nodup_lt 6 bl hnd fun j hj => O.six j (O.cl i hi j (hbl j hj)).1
  have hnot : i ∉ bl := fun q => Nat.lt_irrefl _ (O.cl i hi i (hbl i q)).2
  refine Nodes.el N hi fun dn zn mn tk tb n1 n2 n3 n4 n5 => ?_
  refine enterE S TO.fRes r.d (binds := [("C", .ref (W.x i)), ("strict", (if b then .bool true else .none)), ("base_mros", bm)]) (fun _ _ _ _ _ _ => BindsTo.of_eq rfl) fun L cdv s' S => ?_
  refine pk4 (P1 := fun (m0 : Mp) => St C ρ (σ ++ τ) [(L, .fr "frame" m0)] s') (P2 := fun (m0 : Mp) => m0 "C" = some (.ref (W.x i))) (P3 := fun (m0 : Mp) => m0 "strict" = some (if b then .bool true else .none)) (P4 := fun (m0 : Mp) => m0 "base_mros" = some bm) _ (S) (rfl) (rfl) (rfl) fun m0 S q1 q2 q3 => ?_
  refine xcons (wpAny_mono (Q := RvN1 C ρ (σ ++ τ) L W i b bm) (xAsg (IfExp_ ?_)) (fun f s' h => ?_) fun _ _ e => e)
  · by_cases hb : b = true
    · rw [if_pos hb] at q2
      refine xCmp (ldL S rfl q2 (cNone (wpAny_isNot_other rfl (fun q => nomatch q) (wpAny_truthy_bool ?_))))
      exact ldL S rfl q2 (stL S rfl fun s' S => ⟨rfl, _, S, q1, by rw [hb]; rfl, q3⟩)
    · rw [if_neg hb] at q2
      refine xCmp (ldL S rfl q2 (cNone (wpAny_isNot_self rfl (wpAny_truthy_bool ?_))))
      exact cBool (stL S rfl fun s' S => ⟨rfl, _, S, q1, by rw [Bool.not_eq_true] at hb; rw [hb]; rfl, q3⟩)
  obtain ⟨rfl, m1, S, q1, q2, q3⟩ := h
  refine xcons (xAsg (eDict0 S fun md s' S => stL S rfl fun s' S => ?_))
  refine pk5 (P1 := fun (m2 : Mp) => St C ρ (σ ++ τ) [(L, .fr "frame" m2), (md, .idict [])] s') (P2 := fun (m2 : Mp) => m2 "C" = some (.ref (W.x i))) (P3 := fun (m2 : Mp) => m2 "strict" = some (.bool b)) (P4 := fun (m2 : Mp) => m2 "base_mros" = some bm) (P5 := fun (m2 : Mp) => m2 "memo" = some (.ref md)) _ (S) (q1) (q2) (q3) (rfl) fun m2 S q1 q2 q3 q4 => ?_
  have nmd := S.none_of_nth 1 rfl
  refine S.giveE 1 rfl fun ρ1 x1 e1 S => ?_
  have M1 : Mem a W b ov ρ ρ1 md [] := ⟨x1, nmd, e1, List.nodup_nil, fun p hp => nomatch hp⟩
  refine xcons (wpAny_mono (Q := RvN2 C (σ ++ τ) L W i b md ρ1 ts) (xAsg (BoolOp_or (ldL S rfl q3 ?_))) (fun f s' h => ?_) fun _ _ e => e)
  · rcases hbm with ⟨hb1, hb2, hb3⟩ | ⟨lm, hb1, hlm⟩
    · rw [hb1]
      refine truthy_none ?_
      rw [if_neg Bool.false_ne_true]
      refine BoolOp_one (eList ⟨_, _, _, S, Nat.zero_le _, fun l2 s' S => stL S rfl fun s' S => ?_⟩)
      have f2 := S.none_of_nth 1 rfl
      exact ⟨rfl, _, _, l2, S.give 1 rfl, q1, q2, rfl, q4, ext_upd _ f2, by rw [hb3]; exact upd_self ..⟩
    · rw [hb1]
      refine tList S (S.o (x1 _ _ hlm)) (by rw [List.length_map, hp.len]; exact Nat.le_trans hbl5 (by decide)) fun s' S => ?_
      by_cases hts : ts = []
      · have : (!(adrs ts).isEmpty) = false := by rw [hts]; rfl
        rw [this, if_neg Bool.false_ne_true]
        refine BoolOp_one (eList ⟨_, _, _, S, Nat.zero_le _, fun l2 s' S => stL S rfl fun s' S => ?_⟩)
        have f2 := S.none_of_nth 1 rfl
        exact ⟨rfl, _, _, l2, S.give 1 rfl, q1, q2, rfl, q4, ext_upd _ f2, by rw [hts]; exact upd_self ..⟩
      · have : (!(adrs ts).isEmpty) = true := by
          cases ts with
          | nil => exact absurd rfl hts
          | cons _ _ => rfl
        rw [this, if_pos rfl]
        exact stL S rfl fun s' S => ⟨rfl, _, _, lm, S, q1, q2, rfl, q4, .refl _, x1 _ _ hlm⟩
  obtain ⟨rfl, m3, ρ2, lm, S, q1, q2, q3, q4, x2, hlm⟩ := h
  have M2 := M1.grow x2
  refine xcons (xFor (ldL S rfl q3 (itList S (S.o hlm) fun I s' S _ => ?_)))
  refine forLoop_t (α := RvS) (τ := σ ++ τ) (E' := fun _ _ => False) (Wk.list (by exact hh) I lm (adrs ts)) (fun y => y.ρ) (fun y => [(L, .fr "frame" y.m)])
    (RvP W ov i b md lm a ρ bl ts) noE ?_ ⟨m3, ρ2, []⟩ S ⟨q1, q2, q4, M2, rfl, hlm⟩ ?_ ?_
  · intro k y _ s P S; exact S.o P.f6
  · rintro k Qb Eb hQb hEb hRb ⟨mk, ρk, ek⟩ v s hv ⟨p1, p2, p3, Mk, hek, hlk⟩ S
    dsimp only at p1 p2 p3 Mk hek hlk S
    obtain ⟨t, ht, rfl⟩ : ∃ t, ts[k]? = some t ∧ v = .ref t := by
      rw [List.getElem?_map, Option.map_eq_some_iff] at hv
      obtain ⟨x, e, q⟩ := hv; exact ⟨x, e, q.symm⟩
    obtain ⟨j, sj, xs, hj, t1, t2, t3⟩ := hp.get ht
    have hjm := List.mem_of_getElem? hj
    have hjb := hbl j hjm
    have c := O.cl i hi j hjb
    refine Nodes.el N c.1 fun dj zj mj tkj tbj j1 j2 j3 j4 j5 => ?_
    have hjk : j ∉ ek.map (·.1) := by
      rw [hek]
      intro q
      obtain ⟨k', hk'⟩ := List.mem_iff_getElem?.mp q
      have hlt := (List.getElem?_eq_some_iff.mp hk').1
      rw [List.length_take] at hlt
      rw [List.getElem?_take_of_lt (by omega)] at hk'
      have := (List.getElem?_inj (by omega) hnd).mp (hk'.trans hj.symm)
      omega
    have hxl := hov j c.1 xs t3
    refine ownGoL (S.ta 0 rfl) (asgTup2 S rfl (S.o (Mk.ext _ _ t1)) hh fun s' S => ?_)
    refine pk6 (P1 := fun (m5 : Mp) => St C ρk ((I, litO lm (k + 1)) :: (σ ++ τ)) [(L, .fr "frame" m5)] s') (P2 := fun (m5 : Mp) => m5 "C" = some (.ref (W.x i))) (P3 := fun (m5 : Mp) => m5 "strict" = some (.bool b)) (P4 := fun (m5 : Mp) => m5 "memo" = some (.ref md)) (P5 := fun (m5 : Mp) => m5 "base" = some (.ref (W.x j))) (P6 := fun (m5 : Mp) => m5 "mro" = some (.ref sj)) _ (S) (p1) (p2) (p3) (rfl) (rfl) fun m5 S u1 u2 u3 u4 u5 => ?_
    refine xcons (wpAny_Assert_new hh (xCmp (ldL S rfl u4 (xAttr (ldL S rfl u1 (gOwn S (Mk.ext _ _ n1) (Mk.ext _ _ n2) (T.icOwn _ rfl) n4 fun s' S => oInT O TO.icEq (N.ext Mk.ext) S (Mk.ext _ _ n5) (fun k hk => (O.cl i hi k hk).1) c.1 ?_ (wpAny_truthy_bool ?_)))))))
    · have := r.2
      have h2 : (A.deeper (envX "C3.resolver" (clsF 8 0).scope L a.resolver cdv (cellsFrom (L + 1) (clsF 8 0).scope.names []))).units ≤ A.units + 30 := by show A.units + 3 ≤ _; ((with_reducible refine oz11 ?_); exact rfl)
      have h3 : (9900 : Nat) ≤ cLine := by decide
      omega
    rw [show (W.bs i).contains j = true from by simpa using hjb, if_pos rfl]
    refine xcons (wpAny_Assign_Subscript (Call_ (ldG S (T.glob _ _ rfl) (cwK T.statKeep (ldL S rfl u4 (ldL S rfl u5 ⟨S.amb.x, callC (mkStat_ok (j := j) T (Mk.ext _ _ t2) (Nat.le_trans hxl.1 (by decide)) S ((r.deeper (n := 49) _).le (by decide)) fun x ρ' s' xE Hst S => ?_)⟩))))))
    have M' := Mk.grow xE
    refine ldL S rfl u3 (xAttr (ldL S rfl u4 (gOwn S (M'.ext _ _ j1) (M'.ext _ _ j2) (T.icOwn _ rfl) j3 fun s' S => hDSet (S.o M'.at_) (Nat.le_trans (M'.len O) (by decide)) fun s' cg t => ?_)))
    have S := S.setO M'.at_ cg t
    rw [stored_new (memK_none O c.1 (fun p hp => (M'.mem p hp).1) hjk)] at S
    have em : memK W ek ++ [(W.key j, Value.ref x)] = memK W (ek ++ [(j, x)]) := by simp [memK]
    rw [em] at S
    have nl : lm ≠ md := fun q => by have := M'.at_; rw [← q, xE _ _ hlk] at this; cases this
    refine wpAny_execs_nil (hQb ⟨m5, _, ek ++ [(j, x)]⟩ _ ⟨u1, u2, u3, M'.store c.1 hjk (.inl (t3 ▸ Hst)), ?_, ?_⟩ S)
    · show (ek ++ [(j, x)]).map (·.1) = bl.take (k + 1)
      rw [List.map_append, hek, List.take_add_one, hj]; rfl
    · show upd ρ' md _ lm = _
      rw [upd_ne _ _ nl]; exact xE _ _ hlk
  · rintro ⟨mk, ρk, ek⟩ s ⟨p1, p2, p3, Mk, hek, hlk⟩ S
    dsimp only at p1 p2 p3 Mk hek hlk S
    have hek' : ek.map (·.1) = bl := by
      rw [hek, List.length_map, hp.len, List.take_length]
    have H : MkOk C a W b ov ρ ρk md ek i 44 := mkC3_ok T TR O hov 6 i hi (O.rk6 i hi) N Mk (by rw [hek']; exact hnot) (by rw [hek']; exact hval)
    have fin : ∀ {R' : Result → Shared → Prop} {s' : Shared}, St C ρk (σ ++ τ) [(L, .fr "frame" mk)] s' → (∀ r s', (match r with | .ok (.ret v) => R (.ok (.ret v)) s' | .ok _ => False | .error e => wpAny C.M (A.deeper (envX "C3.resolver" (clsF 8 0).scope L a.resolver cdv (cellsFrom (L + 1) (clsF 8 0).scope.names []))) (leaving (envX "C3.resolver" (clsF 8 0).scope L a.resolver cdv (cellsFrom (L + 1) (clsF 8 0).scope.names [])) e) (fun _ s'' => R (.error e) s'') (fun e' s'' => R (.error e') s'') s') → R' r s') →
        codeAny C.M (A.deeper (envX "C3.resolver" (clsF 8 0).scope L a.resolver cdv (cellsFrom (L + 1) (clsF 8 0).scope.names []))) (.call (.ref (a.kind b)) ⟨[.ref (W.x i), .ref md], []⟩) R' s' := by
      intro R' s' S hR
      refine H _ _ _ _ _ _ S ((r.deeper (n := 49) _).le (by decide)) hh (Around.frames_deeper hA) (FrOk.own S rfl hF) (fun x dx ρ' es' s' P S => hR _ _ ?_) fun hb hn e s' Z => hR _ _ ?_
      · exact hOk x dx ρ' s' P.mem.ext P.rs P.d0 P.below S.forget.back0
      · exact leave_St (Around.frames_deeper hA) (FrOk.own Z.1 rfl hF) rfl Z fun s' Z => hInc hb hn e s' Z.forget.back
    refine wpAny_execs_nil (xcons (wpAny_If (isTrue_plain (ldL S rfl p2 (wpAny_truthy_bool ?_)))))
    by_cases hb : b = true
    · rw [hb, if_pos rfl]
      refine xcons (wpAny_Return_some (Call_ (ldG S (T.glob _ _ rfl) (cwK (T.kKeep true) (ldL S rfl p1 (ldL S rfl p3 ⟨S.amb.x, callC ?_⟩))))))
      have := @fin
      rw [hb] at this
      exact this S fun r s' h => h
    · rw [Bool.not_eq_true] at hb
      rw [hb, if_neg Bool.false_ne_true]
      refine wpAny_execs_nil (xcons (wpAny_Return_some (Call_ (ldG S (T.glob _ _ rfl) (cwK (T.kKeep false) (ldL S rfl p1 (ldL S rfl p3 ⟨S.amb.x, callC ?_⟩)))))))
      have := @fin
      rw [hb] at this
      exact this S fun r s' h => h
end
end Mine
end
section
open PySem PySem.W PyProof.Rows PySem.Calls
set_option Elab.async false
set_option maxRecDepth 100000
set_option linter.unusedVariables false
set_option linter.unusedSimpArgs false
set_option maxHeartbeats 2000000
namespace Mine
open PySem (Sem Str Value Heap Obj Shared)
section
variable {C : Cx} {a : Adr} {ρ : Wd} {τ σ : Lc} {s : Shared} {A : Around} {E : Value → Shared → Prop} {R : Result → Shared → Prop} {l : List Env} {W : Wo} {b : Bool} {ov : Nat → Option (List Nat)} {i : Nat}
theorem c3v_none (h : rowsO ov (W.bs i) = none) : c3v b W ov i = none := by rw [c3v, h]
theorem ro_ok (T : Text C a) (TR : TextR C a) (TO : TextO C a) (O : W.Ok) (hov : OvOk W ov) (N : Nodes ρ a.ic W) (hi : W.live i) {bl : List Nat} {ts : List Addr} {bm : Value} {args : Args}
    (hbm : (bm = .none ∧ bl = [] ∧ ts = []) ∨ ∃ lm, bm = .ref lm ∧ ρ lm = some (.list (adrs ts))) (hp : PairsAt ρ W ov ts bl) (hbl : ∀ j, j ∈ bl → j ∈ W.bs i) (hnd : bl.Nodup)
    (hval : ∀ j, W.live j → j ∉ bl → ov j = c3v b W ov j)
    (S : St C ρ τ σ s) (r : Rm A 52) (hh : A.handled = none) (hA : A.frames = some l) (hF : FrOk (σ ++ τ) l)
    (hb : ∀ kV doc pm an cdv ct, BindsTo s (fnX (topF 10).name "ro" (topF 10).params (topF 10).body (topF 10).scope [] (.ref a.roDef) kV doc pm an cdv ct) args
      [("C", .ref (W.x i)), ("strict", (if b then .bool true else .none)), ("base_mros", bm), ("log_changed_ro", .none), ("use_legacy_ro", .none)])
    (hOk : ∀ xs la ρ' s', ov i = some xs → Ext ρ ρ' → St C ρ' τ (σ ++ [(la, .list (W.refs xs))]) s' → R (.ok (.ret (.ref la))) s')
    (hInc : b = true → ov i = none → ∀ e s', Rz C ρ τ σ e (.ref a.inc) (some .none) s' → R (.error (.ref e)) s') :
    codeAny C.M A (.call (.ref a.ro) args) R s := by
  have hnot : i ∉ bl := fun q => Nat.lt_irrefl _ (O.cl i hi i (hbl i q)).2
  refine enterE S TO.fRo r.d hb fun L cdv s' S => ?_
  refine pk5 (P1 := fun (m0 : Mp) => St C ρ (σ ++ τ) [(L, .fr "frame" m0)] s') (P2 := fun (m0 : Mp) => m0 "C" = some (.ref (W.x i))) (P3 := fun (m0 : Mp) => m0 "strict" = some (if b then .bool true else .none)) (P4 := fun (m0 : Mp) => m0 "base_mros" = some bm) (P5 := fun (m0 : Mp) => m0 "use_legacy_ro" = some .none) _ (S) (rfl) (rfl) (rfl) (rfl) fun m0 S q1 q2 q3 q4 => ?_
  have hout : ∀ (e : Addr) (m : Mp) (fl : Value) (s' : Shared), b = true → ov i = none → Rz C ρ (σ ++ τ) [(L, .fr "frame" m)] e (.ref a.inc) (some fl) s' →
      wpAny C.M (A.deeper (envX "ro" (topF 10).scope L a.ro cdv (cellsFrom (L + 1) (topF 10).scope.names []))) (leaving (envX "ro" (topF 10).scope L a.ro cdv (cellsFrom (L + 1) (topF 10).scope.names [])) (.ref e)) (fun _ s'' => R (.error (.ref e)) s'') (fun e' s'' => R (.error e') s'') s' :=
    fun e m fl s' hb ho Z => leave_St (Around.frames_deeper hA) (FrOk.own Z.1 rfl hF) rfl Z fun s' Z => hInc hb ho e s' Z.forget.back
  refine xcons (xAsg (xMeth (ldG S (T.glob _ _ rfl) (gStatC S TO.resC fun s' S => cwK TO.fRes.keep (ldL S rfl q1 (ldL S rfl q2 (ldL S rfl q3 ⟨S.amb.x, callC ?_⟩)))))))
  refine resolver_ok T TR TO O hov N hi hbm hp hbl hnd hval S ((r.deeper (n := 51) _).le (by decide)) hh (Around.frames_deeper hA) (FrOk.own S rfl hF) ?_ ?_
  · intro x dx ρ1 s' x1 R0 hdx hsome S
    refine stL S rfl fun s' S => ?_
    have R1 := R0
    obtain ⟨z, m, e1, e2, hz, hk, hl, _⟩ := R1
    refine xcons (xAsg (xMeth (ldL S rfl rfl (gMeth S e1 e2 (T.kMeth b _ _ rfl) (hk _ rfl) (cwK T.fMroF.keep ⟨S.amb.x, callC ?_⟩)))))
    refine mro_ok T O (N.ext x1) hi R0 S ((r.deeper (n := 51) _).le (by decide)) hh (Around.frames_deeper hA) (FrOk.own S rfl hF) ?_ ?_
    · intro xs la ρ2 s' ho x2 R2 S
      have x3 : Ext ρ ρ2 := fun p y q => x2 _ _ (notin1 fun w => by rw [w, hdx] at q; cases q) (x1 _ _ q)
      refine stL S rfl fun s' S => ?_
      refine pk3 (P1 := fun (m2 : Mp) => St C ρ2 (σ ++ τ) [(L, .fr "frame" m2), (la, .list (W.refs xs))] s') (P2 := fun (m2 : Mp) => m2 "use_legacy_ro" = some .none) (P3 := fun (m2 : Mp) => m2 "mro" = some (.ref la)) _ (S) (q4) (rfl) fun m2 S u1 u2 => ?_
      refine xcons (xAsg (IfExp_ (xCmp (ldL S rfl u1 (cNone (wpAny_isNot_self rfl (wpAny_truthy_bool ?_)))))))
      refine cBool (stL S rfl fun s' S => ?_)
      refine xcons (wpAny_If (isTrue_plain (ldL S rfl rfl (wpAny_truthy_bool ?_))))
      refine wpAny_execs_nil (xcons (wpAny_Return_some (ldL S rfl u2 ?_)))
      exact hOk xs la ρ2 s' ho x3 (St.back (S.sub (List.Sublist.cons _ (.refl _))))
    · intro hb ho e ρ2 s' x2 Z
      refine hout e _ _ s' hb ho (Z.mono fun p y q => x2 _ _ (notin1 fun w => by rw [w, hdx] at q; cases q) (x1 _ _ q))
  · intro hb hn e s' Z
    exact hout e _ _ s' hb (by rw [hval i hi hnot]; exact c3v_none hn) Z
theorem ro0_ok (T : Text C a) (TR : TextR C a) (TO : TextO C a) (O : W.Ok) (hov : OvOk W ov) (N : Nodes ρ a.ic W) (hi : W.live i) (hval : ∀ j, W.live j → ov j = c3v false W ov j)
    (S : St C ρ τ σ s) (r : Rm A 52) (hh : A.handled = none) (hA : A.frames = some l) (hF : FrOk (σ ++ τ) l)
    (hOk : ∀ xs la ρ' s', ov i = some xs → Ext ρ ρ' → St C ρ' τ (σ ++ [(la, .list (W.refs xs))]) s' → R (.ok (.ret (.ref la))) s') :
    codeAny C.M A (.call (.ref a.ro) ⟨[.ref (W.x i)], []⟩) R s := by
  obtain ⟨o, n, ho, hd⟩ := TO.roD
  exact ro_ok (b := false) (bl := []) (ts := []) T TR TO O hov N hi (.inl ⟨rfl, rfl, rfl⟩) trivial (fun _ h => nomatch h) List.nodup_nil (fun j hj _ => hval j hj) S r hh hA hF
    (fun _ _ _ _ _ _ => BindsTo.of_defaults rfl (S.amb.x _ _ ho) hd rfl rfl) hOk (fun q => nomatch q)
theorem roS_ok (T : Text C a) (TR : TextR C a) (TO : TextO C a) (O : W.Ok) (hov : OvOk W ov) (N : Nodes ρ a.ic W) (hi : W.live i) (hval : ∀ j, W.live j → ov j = c3v true W ov j)
    (S : St C ρ τ σ s) (r : Rm A 52) (hh : A.handled = none) (hA : A.frames = some l) (hF : FrOk (σ ++ τ) l)
    (hOk : ∀ xs la ρ' s', ov i = some xs → Ext ρ ρ' → St C ρ' τ (σ ++ [(la, .list (W.refs xs))]) s' → R (.ok (.ret (.ref la))) s')
    (hInc : ov i = none → ∀ e s', Rz C ρ τ σ e (.ref a.inc) (some .none) s' → R (.error (.ref e)) s') :
    codeAny C.M A (.call (.ref a.ro) ⟨[.ref (W.x i)], [("strict", .bool true)]⟩) R s := by
  obtain ⟨o, n, ho, hd⟩ := TO.roD
  exact ro_ok (b := true) (bl := []) (ts := []) T TR TO O hov N hi (.inl ⟨rfl, rfl, rfl⟩) trivial (fun _ h => nomatch h) List.nodup_nil (fun j hj _ => hval j hj) S r hh hA hF
    (fun _ _ _ _ _ _ => BindsTo.of_defaults rfl (S.amb.x _ _ ho) hd rfl rfl) hOk (fun _ => hInc)
theorem roB_ok (T : Text C a) (TR : TextR C a) (TO : TextO C a) (O : W.Ok) (hov : OvOk W ov) (N : Nodes ρ a.ic W) (hi : W.live i) {ts : List Addr} {lm : Addr} (hlm : ρ lm = some (.list (adrs ts))) (hp : PairsAt ρ W ov ts (W.bs i))
    (hval : ∀ j, W.live j → j ∉ W.bs i → ov j = c3v false W ov j)
    (S : St C ρ τ σ s) (r : Rm A 52) (hh : A.handled = none) (hA : A.frames = some l) (hF : FrOk (σ ++ τ) l)
    (hOk : ∀ xs la ρ' s', ov i = some xs → Ext ρ ρ' → St C ρ' τ (σ ++ [(la, .list (W.refs xs))]) s' → R (.ok (.ret (.ref la))) s') :
    codeAny C.M A (.call (.ref a.ro) ⟨[.ref (W.x i)], [("base_mros", .ref lm)]⟩) R s := by
  obtain ⟨o, n, ho, hd⟩ := TO.roD
  exact ro_ok (b := false) (bl := W.bs i) (ts := ts) T TR TO O hov N hi (.inr ⟨lm, rfl, hlm⟩) hp (fun _ h => h) (O.nd i hi) hval S r hh hA hF
    (fun _ _ _ _ _ _ => BindsTo.of_defaults rfl (S.amb.x _ _ ho) hd rfl rfl) hOk (fun q => nomatch q)
end
end Mine
end
section
open PySem
set_option Elab.async false
namespace Mine
open PySem (Sem Str Value Heap Obj Shared)
noncomputable def ovN (b : Bool) (W : Wo) (st : Nat → Option (List Nat)) : Nat → Nat → Option (List Nat)
  | 0, _ => none
  | n + 1, j => match st j with
    | some x => some x
    | none => c3v b W (ovN b W st n) j
noncomputable def ovS (b : Bool) (W : Wo) (st : Nat → Option (List Nat)) (j : Nat) : Option (List Nat) := ovN b W st (W.rk j + 1) j
theorem rowsO_congr {f g : Nat → Option (List Nat)} : ∀ {l : List Nat}, (∀ j, j ∈ l → f j = g j) → rowsO f l = rowsO g l
  | [], _ => rfl
  | j :: l, h => by rw [rowsO, rowsO, h j (.head _), rowsO_congr fun k hk => h k (.tail _ hk)]
theorem c3v_congr {b : Bool} {W : Wo} {f g : Nat → Option (List Nat)} {i : Nat} (h : ∀ j, j ∈ W.bs i → f j = g j) : c3v b W f i = c3v b W g i := by
  rw [c3v, c3v, rowsO_congr h]
theorem ovN_eq {b : Bool} {W : Wo} {st : Nat → Option (List Nat)} (O : W.Ok) : ∀ (n m j : Nat), W.live j → W.rk j < n → W.rk j < m → ovN b W st n j = ovN b W st m j
  | n + 1, m + 1, j, hj, hn, hm => by
    rw [ovN, ovN]
    cases st j with
    | some x => rfl
    | none =>
      dsimp only
      exact c3v_congr fun k hk => by
        have c := O.cl j hj k hk
        exact ovN_eq O n m k c.1 (by omega) (by omega)
theorem ovS_st {b : Bool} {W : Wo} {st : Nat → Option (List Nat)} {j : Nat} {x : List Nat} (h : st j = some x) : ovS b W st j = some x := by rw [ovS, ovN, h]
theorem ovS_eq {b : Bool} {W : Wo} {st : Nat → Option (List Nat)} (O : W.Ok) {j : Nat} (hj : W.live j) (h : st j = none) : ovS b W st j = c3v b W (ovS b W st) j := by
  rw [ovS, ovN, h]
  exact c3v_congr fun k hk => by
    have c := O.cl j hj k hk
    exact ovN_eq O _ _ k c.1 c.2 (Nat.lt_succ_self _)
end Mine
end
section
open PySem
set_option Elab.async false
namespace Mine
open PySem (Sem Str Value Heap Obj Shared)
theorem neRows_ign {rows : List (List Nat)} {ign : Option Nat} {r : List Nat} (h : r ∈ neRows rows ign) {k : Nat} (hk : k ∈ r) : some k ≠ ign := by
  obtain ⟨h1, _⟩ := List.mem_filter.mp h
  obtain ⟨r0, h0, rfl⟩ := List.mem_map.mp h1
  simpa using (List.mem_filter.mp hk).2
theorem mgo_wf : ∀ (n : Nat) (rows : List (List Nat)) (ign : Option Nat) (acc res : List Nat), acc.Nodup → (∀ k, k ∈ acc → ∀ r, r ∈ neRows rows ign → k ∉ r) → mgo n rows ign acc = some res →
    res.Nodup ∧ ∀ k, k ∈ res → k ∈ acc ∨ ∃ r, r ∈ rows ∧ k ∈ r
  | n + 1, rows, ign, acc, res, hnd, hac, h => by
    rw [mgo] at h
    split at h
    · cases h; exact ⟨hnd, fun k hk => .inl hk⟩
    · cases q : findB (neRows rows ign) with
      | none => rw [q] at h; cases h
      | some j =>
        rw [q] at h
        dsimp only at h
        obtain ⟨r, hr, hj⟩ := findB_mem q
        have hja : j ∉ acc := fun w => hac j w r hr hj
        have h2 := mgo_wf n _ _ _ _ (List.nodup_append.mpr ⟨hnd, by simp, fun a ha c hc e => by simp at hc; subst hc; subst e; exact hja ha⟩) (fun k hk r' hr' w => ?_) h
        · refine ⟨h2.1, fun k hk => ?_⟩
          rcases h2.2 k hk with h3 | ⟨r', hr', hk'⟩
          · rcases List.mem_append.mp h3 with h3 | h3
            · exact .inl h3
            · simp at h3
              subst h3
              obtain ⟨_, r0, h0, _, hs⟩ := mem_neRows hr
              exact .inr ⟨r0, h0, hs _ hj⟩
          · obtain ⟨_, r0, h0, _, hs⟩ := mem_neRows hr'
            exact .inr ⟨r0, h0, hs _ hk'⟩
        · rcases List.mem_append.mp hk with h3 | h3
          · obtain ⟨_, r0, h0, _, hs⟩ := mem_neRows hr'
            exact hac k h3 r0 h0 (hs _ w)
          · simp at h3
            subst h3
            exact neRows_ign hr' w rfl
theorem mergeC_wf {rows : List (List Nat)} {res : List Nat} (h : mergeC rows = some res) : res.Nodup ∧ ∀ k, k ∈ res → ∃ r, r ∈ rows ∧ k ∈ r := by
  obtain ⟨h1, h2⟩ := mgo_wf _ _ _ _ _ List.nodup_nil (fun k hk => nomatch hk) h
  exact ⟨h1, fun k hk => (h2 k hk).resolve_left (fun q => nomatch q)⟩
noncomputable def OvNd (W : Wo) (ov : Nat → Option (List Nat)) : Prop := ∀ i, W.live i → ∀ xs, ov i = some xs → xs.Nodup ∧ ∀ k, k ∈ xs → W.live k ∧ W.rk k ≤ W.rk i
theorem OvNd.ok {W : Wo} {ov : Nat → Option (List Nat)} (O : W.Ok) (h : OvNd W ov) : OvOk W ov := fun i hi xs hx =>
  ⟨nodup_lt 6 xs (h i hi xs hx).1 fun k hk => O.six k ((h i hi xs hx).2 k hk).1, fun k hk => ((h i hi xs hx).2 k hk).1⟩
theorem walk_rk {W : Wo} (O : W.Ok) : ∀ (n i : Nat), W.live i → W.rk i < n → ∀ j, j ∈ W.walk i → W.live j ∧ W.rk j ≤ W.rk i
  | n + 1, i, hl, hn, j, hj => by
    rw [walk_eq O hl] at hj
    rcases List.mem_cons.mp hj with rfl | hj
    · exact ⟨hl, Nat.le_refl _⟩
    · obtain ⟨k, hk, hj⟩ := List.mem_flatMap.mp hj
      have c := O.cl i hl k hk
      have := walk_rk O n k c.1 (by omega) j hj
      exact ⟨this.1, by omega⟩
theorem rowsO_mem {ov : Nat → Option (List Nat)} : ∀ {l : List Nat} {rows : List (List Nat)}, rowsO ov l = some rows → ∀ r, r ∈ rows → ∃ j, j ∈ l ∧ ov j = some r
  | [], rows, h, r, hr => by rw [rowsO] at h; cases h; cases hr
  | j :: l, rows, h, r, hr => by
    rw [rowsO] at h
    cases q : ov j with
    | none => rw [q] at h; cases h
    | some x =>
      rw [q] at h
      dsimp only at h
      cases q2 : rowsO ov l with
      | none => rw [q2] at h; cases h
      | some rs =>
        rw [q2] at h
        cases h
        rcases List.mem_cons.mp hr with rfl | hr
        · exact ⟨j, .head _, q⟩
        · obtain ⟨k, hk, e⟩ := rowsO_mem q2 r hr
          exact ⟨k, .tail _ hk, e⟩
theorem c3v_nd {b : Bool} {W : Wo} {ov : Nat → Option (List Nat)} (O : W.Ok) {i : Nat} (hi : W.live i) (h : ∀ j, j ∈ W.bs i → ∀ xs, ov j = some xs → xs.Nodup ∧ ∀ k, k ∈ xs → W.live k ∧ W.rk k ≤ W.rk j) {xs : List Nat}
    (hx : c3v b W ov i = some xs) : xs.Nodup ∧ ∀ k, k ∈ xs → W.live k ∧ W.rk k ≤ W.rk i := by
  rw [c3v] at hx
  cases q : rowsO ov (W.bs i) with
  | none => rw [q] at hx; cases hx
  | some rows =>
    rw [q] at hx
    dsimp only at hx
    have hrow : ∀ r, r ∈ rows → r.Nodup ∧ ∀ k, k ∈ r → W.live k ∧ W.rk k < W.rk i := fun r hr => by
      obtain ⟨j, hj, e⟩ := rowsO_mem q r hr
      have c := O.cl i hi j hj
      have := h j hj r e
      exact ⟨this.1, fun k hk => ⟨(this.2 k hk).1, Nat.lt_of_le_of_lt (this.2 k hk).2 c.2⟩⟩
    split at hx
    · cases hx
      have h0 : (rows.headD []).Nodup ∧ ∀ k, k ∈ rows.headD [] → W.live k ∧ W.rk k < W.rk i := by
        cases rows with
        | nil => exact ⟨List.nodup_nil, fun k hk => nomatch hk⟩
        | cons r rs => exact hrow r (.head _)
      refine ⟨List.nodup_cons.mpr ⟨fun w => Nat.lt_irrefl _ (h0.2 i w).2, h0.1⟩, fun k hk => ?_⟩
      rcases List.mem_cons.mp hk with rfl | hk
      · exact ⟨hi, Nat.le_refl _⟩
      · exact ⟨(h0.2 k hk).1, Nat.le_of_lt (h0.2 k hk).2⟩
    · unfold vOf at hx
      cases q2 : mergeC ([[i]] ++ rows ++ [W.bs i]) with
      | some r =>
        rw [q2] at hx
        cases hx
        have wf := mergeC_wf q2
        refine ⟨wf.1, fun k hk => ?_⟩
        obtain ⟨r, hr, hk⟩ := wf.2 k hk
        rcases List.mem_append.mp hr with hr | hr
        · rcases List.mem_append.mp hr with hr | hr
          · simp at hr; subst hr; simp at hk; subst hk; exact ⟨hi, Nat.le_refl _⟩
          · exact ⟨((hrow r hr).2 k hk).1, Nat.le_of_lt ((hrow r hr).2 k hk).2⟩
        · simp at hr; subst hr
          have c := O.cl i hi k hk
          exact ⟨c.1, Nat.le_of_lt c.2⟩
      | none =>
        rw [q2] at hx
        dsimp only at hx
        split at hx
        · cases hx
        · cases hx
          exact ⟨nodup_keepLast _, fun k hk => walk_rk O _ i hi (Nat.lt_succ_self _) k (mem_keepLast.mp hk)⟩
theorem ovN_nd {b : Bool} {W : Wo} {st : Nat → Option (List Nat)} (O : W.Ok) (hst : ∀ j, W.live j → ∀ xs, st j = some xs → xs.Nodup ∧ ∀ k, k ∈ xs → W.live k ∧ W.rk k ≤ W.rk j) : ∀ (n j : Nat), W.live j → ∀ xs, ovN b W st n j = some xs → xs.Nodup ∧ ∀ k, k ∈ xs → W.live k ∧ W.rk k ≤ W.rk j
  | n + 1, j, hj, xs, h => by
    rw [ovN] at h
    cases q : st j with
    | some x => rw [q] at h; cases h; exact hst j hj _ q
    | none =>
      rw [q] at h
      exact c3v_nd O hj (fun k hk ys hy => ovN_nd O hst n k (O.cl j hj k hk).1 ys hy) h
theorem ovS_nd {b : Bool} {W : Wo} {st : Nat → Option (List Nat)} (O : W.Ok) (hst : ∀ j, W.live j → ∀ xs, st j = some xs → xs.Nodup ∧ ∀ k, k ∈ xs → W.live k ∧ W.rk k ≤ W.rk j) : OvNd W (ovS b W st) :=
  fun i hi xs h => ovN_nd O hst _ i hi xs h
end Mine
end
section
open PySem PySem.W PyProof.Rows PySem.Calls
set_option Elab.async false
set_option genSizeOf false
set_option genInjectivity false
set_option maxRecDepth 100000
set_option linter.unusedVariables false
set_option linter.unusedSimpArgs false
namespace Mine
open PySem (Sem Str Value Heap Obj Shared)
structure Vo where
  live : Nat → Prop
  x : Nat → Addr
  key : Nat → Int
  dx : Nat → Addr
  dep : Nat → Addr
  imp : Nat → Addr
  root : Nat → Option Nat
  rk : Nat → Nat
structure Gs where
  bs : Nat → List Nat
  ds : Nat → List Nat
  so : Nat → List Nat
noncomputable def Vo.wo (V : Vo) (g : Gs) : Wo := ⟨V.live, V.x, V.key, g.bs, V.rk⟩
noncomputable def Vo.refs (V : Vo) (l : List Nat) : List Value := l.map fun j => .ref (V.x j)
noncomputable def Vo.rootV (V : Vo) (i : Nat) : Value := match V.root i with
  | some r => .ref (V.x r)
  | none => .none
structure Vo.Ok (V : Vo) : Prop where
  inj : ∀ i j, V.live i → V.live j → V.x i = V.x j → i = j
  kinj : ∀ i j, V.live i → V.live j → V.key i = V.key j → i = j
  rk6 : ∀ i, V.live i → V.rk i < 6
  six : ∀ i, V.live i → i < 6
  dinj : ∀ i j, V.live i → V.live j → V.dep i = V.dep j → i = j
  iinj : ∀ i j, V.live i → V.live j → V.imp i = V.imp j → i = j
  apart : ∀ i j, V.live i → V.live j → V.dep i ≠ V.imp j
  root : ∀ i r, V.live i → V.root i = some r → V.live r ∧ V.rk r ≤ V.rk i
structure Gs.Ok (V : Vo) (g : Gs) : Prop where
  cl : ∀ i, V.live i → ∀ j, j ∈ g.bs i → V.live j ∧ V.rk j < V.rk i
  len : ∀ i, V.live i → (g.bs i).length ≤ 5
  nd : ∀ i, V.live i → (g.bs i).Nodup
  dnd : ∀ i, V.live i → (g.ds i).Nodup
  dep : ∀ i, V.live i → ∀ j, j ∈ g.ds i → V.live j ∧ V.rk i < V.rk j
  so : ∀ i, V.live i → (g.so i).Nodup ∧ ∀ k, k ∈ g.so i → V.live k ∧ V.rk k ≤ V.rk i
theorem Gs.Ok.wo {V : Vo} {g : Gs} (O : V.Ok) (G : g.Ok V) : (V.wo g).Ok := ⟨G.cl, O.inj, O.kinj, O.rk6, O.six, G.len, G.nd⟩
noncomputable def specNames : List Str := ["key", "_ROOT", "_dependents", "bases", "_implied", "iro", "sro"]
noncomputable def SDom (m : Mp) : Prop := ∀ x : Str, specNames.contains x = false → m x = none
theorem SDom.put {m : Mp} (h : SDom m) {x : Str} {v : Value} (hx : specNames.contains x = true) : SDom (m.put x v) := fun y hy => by
  unfold Mp.put
  rw [if_neg (fun q => by rw [q, hx] at hy; cases hy)]
  exact h y hy
noncomputable def depK (V : Vo) (es : List (Nat × Addr)) : List (Int × Value) := es.map fun p => (V.key p.1, .ref p.2)
structure SpecM (ρ : Wd) (V : Vo) (g : Gs) (i : Nat) (m : Mp) : Prop where
  dom : SDom m
  key : ∃ t, m "key" = some (.int (V.key i) t)
  root : m "_ROOT" = some (V.rootV i)
  dep : m "_dependents" = some (.ref (V.dep i))
  imp : m "_implied" = some (.ref (V.imp i))
  bs : ∃ t, m "bases" = some (.ref t) ∧ ρ t = some (.tup (V.refs (g.bs i)))
  sro : ∃ t, m "sro" = some (.ref t) ∧ ρ t = some (.tup (V.refs (g.so i)))
  iro : ∃ t, m "iro" = some (.ref t) ∧ ρ t = some (.tup (V.refs (g.so i)))
structure SpecAt (ρ : Wd) (a : Adr) (V : Vo) (g : Gs) (i : Nat) : Prop where
  ins : ρ (V.x i) = some (.ins a.ic (V.dx i))
  nsd : ∃ z m, ρ (V.dx i) = some (.nsd z m) ∧ z ≤ 100 ∧ SpecM ρ V g i m
  dep : ∃ es, ρ (V.dep i) = some (.idict (depK V es)) ∧ es.map (·.1) = g.ds i ∧ ∀ p, p ∈ es → ∃ t, ρ p.2 = some (.tup [.ref (V.x p.1), .int 1 t])
  imp : ∃ kv, ρ (V.imp i) = some (.idict kv) ∧ kv.length ≤ 10
noncomputable def Spx (ρ : Wd) (a : Adr) (V : Vo) (g : Gs) : Prop := ∀ i, V.live i → SpecAt ρ a V g i
section
variable {ρ : Wd} {a : Adr} {V : Vo} {g : Gs} {i : Nat} {G : Prop}
theorem Spx.el4 (S : Spx ρ a V g) (hi : V.live i) (k : ρ (V.x i) = some (.ins a.ic (V.dx i)) → ∀ z m, ρ (V.dx i) = some (.nsd z m) → z ≤ 100 → SpecM ρ V g i m → ∀ es, ρ (V.dep i) = some (.idict (depK V es)) → es.map (·.1) = g.ds i → (∀ p, p ∈ es → ∃ t, ρ p.2 = some (.tup [.ref (V.x p.1), .int 1 t])) →
    ∀ kv, ρ (V.imp i) = some (.idict kv) → kv.length ≤ 10 → G) : G := (S i hi).nsd.elim fun z h => h.elim fun m h => (S i hi).dep.elim fun es d => (S i hi).imp.elim fun kv q => k (S i hi).ins z m h.1 h.2.1 h.2.2 es d.1 d.2.1 d.2.2 kv q.1 q.2
theorem Spx.el3 (S : Spx ρ a V g) (hi : V.live i) (k : ρ (V.x i) = some (.ins a.ic (V.dx i)) → ∀ z m, ρ (V.dx i) = some (.nsd z m) → z ≤ 100 → SpecM ρ V g i m → ∀ es, ρ (V.dep i) = some (.idict (depK V es)) → es.map (·.1) = g.ds i → (∀ p, p ∈ es → ∃ t, ρ p.2 = some (.tup [.ref (V.x p.1), .int 1 t])) → G) : G :=
  S.el4 hi fun e1 z m e2 hz M es d1 d2 d3 _ _ _ => k e1 z m e2 hz M es d1 d2 d3
theorem Spx.el1 (S : Spx ρ a V g) (hi : V.live i) (k : ρ (V.x i) = some (.ins a.ic (V.dx i)) → ∀ z m, ρ (V.dx i) = some (.nsd z m) → z ≤ 100 → SpecM ρ V g i m → G) : G := S.el4 hi fun e1 z m e2 hz M _ _ _ _ _ _ _ => k e1 z m e2 hz M
end
section
variable {ρ ρ' : Wd} {a : Adr} {V : Vo} {g g' : Gs} {i j d : Nat}
noncomputable def ExtD (D : List Addr) (ρ ρ' : Wd) : Prop := ∀ p y, ρ p = some y → p ∉ D ∨ ((∀ z m, y ≠ .nsd z m) ∧ ∀ k, y ≠ .idict k) → ρ' p = some y
theorem Ext.ed {D : List Addr} (x : Ext ρ ρ') : ExtD D ρ ρ' := fun p y e _ => x p y e
theorem ExtD.trans {D : List Addr} {a b c : Wd} (x : ExtD D a b) (y : ExtD D b c) : ExtD D a c := fun p q e h => y p q (x p q e h) h
theorem ExtB.ed {d : Addr} {y : AObj} (x : ExtB [d] ρ ρ') (e : ρ d = some y) (h : (∃ z m, y = .nsd z m) ∨ ∃ k, y = .idict k) : ExtD [d] ρ ρ' := fun p w hp hn => by
  refine x p w (fun q => ?_) hp
  rcases hn with hn | hn
  · exact hn q
  · rw [List.mem_singleton] at q
    rw [q, e] at hp; cases hp
    rcases h with ⟨z, m, h⟩ | ⟨k, h⟩
    · exact hn.1 _ _ h
    · exact hn.2 _ h
theorem ExtD.tup {D : List Addr} (x : ExtD D ρ ρ') {p : Addr} {xs : List Value} (e : ρ p = some (.tup xs)) : ρ' p = some (.tup xs) := x _ _ e (.inr ⟨by intro _ _ q; (cases q), by intro _ q; cases q⟩)
theorem ExtD.mono {D D' : List Addr} (x : ExtD D ρ ρ') (h : ∀ d, d ∈ D → d ∈ D') : ExtD D' ρ ρ' := fun p y e n => x p y e (n.imp (fun w q => w (h _ q)) id)
theorem SpecM.ext {D : List Addr} {m : Mp} (h : SpecM ρ V g i m) (x : ExtD D ρ ρ') (e1 : g'.bs i = g.bs i) (e3 : g'.so i = g.so i) : SpecM ρ' V g' i m := by
  obtain ⟨dom, key, root, dep, imp, ⟨t1, b1, b2⟩, ⟨t2, s1, s2⟩, ⟨t3, i1, i2⟩⟩ := h
  exact ⟨dom, key, root, dep, imp, ⟨t1, b1, by rw [e1]; exact x.tup b2⟩, ⟨t2, s1, by rw [e3]; exact x.tup s2⟩, ⟨t3, i1, by rw [e3]; exact x.tup i2⟩⟩
theorem SpecAt.ext {D : List Addr} (h : SpecAt ρ a V g i) (x : ExtD D ρ ρ') (n1 : V.dx i ∉ D) (n2 : V.dep i ∉ D) (n3 : V.imp i ∉ D) (e1 : g'.bs i = g.bs i) (e2 : g'.ds i = g.ds i) (e3 : g'.so i = g.so i) : SpecAt ρ' a V g' i := by
  obtain ⟨hi, ⟨z, m, hm, hz, hM⟩, ⟨es, h1, h2, h3⟩, ⟨kv, k1, k2⟩⟩ := h
  refine ⟨x _ _ hi (.inr ⟨by intro _ _ q; (cases q), by intro _ q; cases q⟩), ⟨z, m, x _ _ hm (.inl n1), hz, hM.ext x e1 e3⟩, ⟨es, x _ _ h1 (.inl n2), by rw [e2]; exact h2, fun p hp => ?_⟩, ⟨kv, x _ _ k1 (.inl n3), k2⟩⟩
  obtain ⟨t, ht⟩ := h3 p hp
  exact ⟨t, x.tup ht⟩
theorem Spx.dx_ne (O : V.Ok) (S : Spx ρ a V g) (hi : V.live i) (hj : V.live j) (n : i ≠ j) : V.dx i ≠ V.dx j := fun q => by
  obtain ⟨z, m, e, _, M⟩ := (S i hi).nsd
  obtain ⟨z', m', e', _, M'⟩ := (S j hj).nsd
  rw [q, e'] at e; cases e
  obtain ⟨t, k⟩ := M.key
  obtain ⟨t', k'⟩ := M'.key
  rw [k] at k'
  have : V.key i = V.key j := (Value.int.inj (Option.some.inj k')).1
  exact n (O.kinj i j hi hj this)
theorem Spx.apart (O : V.Ok) (S : Spx ρ a V g) (hi : V.live i) (hj : V.live j) : V.dx i ≠ V.dep j ∧ V.dx i ≠ V.imp j := by
  obtain ⟨z, m, e, _, M⟩ := (S i hi).nsd
  obtain ⟨es, h1, _⟩ := (S j hj).dep
  obtain ⟨kv, k1, _⟩ := (S j hj).imp
  exact ⟨fun q => by (rw [q, h1] at e; cases e), fun q => by (rw [q, k1] at e; cases e)⟩
theorem Spx.turn (O : V.Ok) (S : Spx ρ a V g) (hi : V.live i) (x : ExtD [V.dx i, V.dep i, V.imp i] ρ ρ') (e : ∀ j, j ≠ i → g'.bs j = g.bs j ∧ g'.ds j = g.ds j ∧ g'.so j = g.so j) (h : SpecAt ρ' a V g' i) : Spx ρ' a V g' := fun j hj => by
  by_cases q : j = i
  · subst q; exact h
  · obtain ⟨e1, e2, e3⟩ := e j q
    refine (S j hj).ext x ?_ ?_ ?_ e1 e2 e3
    · simp only [List.mem_cons, List.not_mem_nil, or_false, not_or]
      exact ⟨S.dx_ne O hj hi q, (S.apart O hj hi).1, (S.apart O hj hi).2⟩
    · simp only [List.mem_cons, List.not_mem_nil, or_false, not_or]
      exact ⟨(S.apart O hi hj).1.symm, fun w => q (O.dinj j i hj hi w), O.apart j i hj hi⟩
    · simp only [List.mem_cons, List.not_mem_nil, or_false, not_or]
      exact ⟨(S.apart O hi hj).2.symm, (O.apart i j hi hj).symm, fun w => q (O.iinj j i hj hi w)⟩
theorem Spx.ext (S : Spx ρ a V g) (x : Ext ρ ρ') : Spx ρ' a V g := fun j hj => (S j hj).ext (D := []) x.ed notin0 notin0 notin0 rfl rfl rfl
theorem Spx.nodes (S : Spx ρ a V g) : Nodes ρ a.ic (V.wo g) := fun i hi => by
  refine Spx.el1 S hi fun h1 z m h2 _ M => ?_
  obtain ⟨t, k⟩ := M.key
  obtain ⟨tb, b1, b2⟩ := M.bs
  exact ⟨V.dx i, z, m, t, tb, h1, h2, k, b1, b2⟩
end
end Mine
end
section
open PySem PySem.W PyProof.Rows PySem.Calls
set_option Elab.async false
set_option maxRecDepth 100000
set_option linter.unusedVariables false
set_option linter.unusedSimpArgs false
set_option maxHeartbeats 2000000
namespace Mine
open PySem (Sem Str Value Heap Obj Shared)
structure TextS (C : Cx) (a : Adr) : Prop where
  fSpInit : FnAt C.K a.spInit "Specification.__init__" (clsF 13 0) (.ref a.spDef)
  fDep : FnAt C.K a.depends "Specification.dependents" (clsF 13 1) .none
  fSub : FnAt C.K a.subscribe "Specification.subscribe" (clsF 13 2) .none
  fUnsub : FnAt C.K a.unsubscribe "Specification.unsubscribe" (clsF 13 3) .none
  fSetB : FnAt C.K a.setBases "Specification.setBases" (clsF 13 4) .none
  fCalc : FnAt C.K a.calcSro "Specification._calculate_sro" (clsF 13 5) .none
  fChg : FnAt C.K a.changed "Specification.changed" (clsF 13 6) .none
  icIs : isIn C.K (.ref a.ic) a.ic = true
noncomputable def Gs.addD (g : Gs) (b i : Nat) : Gs := { g with ds := fun j => if j = b then g.ds j ++ [i] else g.ds j }
noncomputable def Gs.delD (g : Gs) (b i : Nat) : Gs := { g with ds := fun j => if j = b then (g.ds j).filter (· ≠ i) else g.ds j }
section
variable {C : Cx} {a : Adr} {ρ : Wd} {τ σ : Lc} {s : Shared} {A : Around} {E : Value → Shared → Prop} {R : Result → Shared → Prop} {V : Vo} {g : Gs} {b i : Nat}
theorem depK_none (O : V.Ok) (hi : V.live i) : ∀ {es : List (Nat × Addr)}, (∀ p, p ∈ es → V.live p.1) → i ∉ es.map (·.1) → valueAt (depK V es) (V.key i) = none
  | [], _, _ => rfl
  | p :: es, hl, hn => by
    have h1 : V.key p.1 ≠ V.key i := fun q => hn (by rw [List.map_cons, O.kinj p.1 i (hl p (.head _)) hi q]; exact .head _)
    have h2 := depK_none O hi (es := es) (fun q hq => hl q (.tail _ hq)) fun q => hn (.tail _ q)
    unfold valueAt depK at h2 ⊢
    rw [List.map_cons, List.find?_cons]
    simp only [h1, decide_false]
    exact h2
theorem depK_get (O : V.Ok) {j : Nat} {r : Addr} : ∀ {es : List (Nat × Addr)}, (∀ p, p ∈ es → V.live p.1) → (es.map (·.1)).Nodup → (j, r) ∈ es → valueAt (depK V es) (V.key j) = some (.ref r)
  | p :: es, hl, hn, hm => by
    rw [List.map_cons, List.nodup_cons] at hn
    unfold valueAt depK
    rw [List.map_cons, List.find?_cons]
    rcases List.mem_cons.mp hm with rfl | hm'
    · simp
    · have h1 : V.key p.1 ≠ V.key j := fun q => hn.1 (by
        rw [O.kinj p.1 j (hl p (.head _)) (hl (j, r) hm) q]
        exact List.mem_map_of_mem (f := (·.1)) hm')
      simp only [h1, decide_false]
      exact depK_get O (es := es) (fun q hq => hl q (.tail _ hq)) hn.2 hm'
theorem dep_ok (T : Text C a) (TS : TextS C a) (SX : Spx ρ a V g) (hb : V.live b) (S : St C ρ τ σ s) (r : Rm A 0) (h : ∀ s', St C ρ τ σ s' → R (.ok (.ret (.ref (V.dep b)))) s') :
    codeAny C.M A (.call (.ref a.depends) ⟨[.ref (V.x b)], []⟩) R s := by
  refine Spx.el1 SX hb fun e1 z m e2 hz M => ?_
  refine enter S TS.fDep r.d (binds := [("self", .ref (V.x b))]) (fun _ _ _ _ _ _ => BindsTo.of_eq rfl) fun L cdv s' S => ?_
  exact xcons (wpAny_Return_some (xAttr (ldL S rfl rfl (gOwn S e1 e2 (T.icOwn _ rfl) M.dep fun s' S => h s' S.forget.back0))))
theorem subscribe_ok (T : Text C a) (TS : TextS C a) (O : V.Ok) (G : g.Ok V) (SX : Spx ρ a V g) (hb : V.live b) (hi : V.live i) (hn : i ∉ g.ds b) (S : St C ρ τ σ s) (r : Rm A 3)
    (h : ∀ ρ' s', ExtD [V.dep b] ρ ρ' → Spx ρ' a V (g.addD b i) → St C ρ' τ σ s' → R (.ok (.ret .none)) s') :
    codeAny C.M A (.call (.ref a.subscribe) ⟨[.ref (V.x b), .ref (V.x i)], []⟩) R s := by
  have SXb := SX b hb
  obtain ⟨e1, ⟨z, m, e2, hz, M⟩, ⟨es, d1, d2, d3⟩, dimp⟩ := SX b hb
  refine Spx.el1 SX hi fun f1 zi mi f2 hzi Mi => ?_
  obtain ⟨tk, fk⟩ := Mi.key
  have hes : ∀ p, p ∈ es → V.live p.1 := fun p hp => (G.dep b hb p.1 (by rw [← d2]; exact List.mem_map_of_mem (f := (·.1)) hp)).1
  have hni : i ∉ es.map (·.1) := by rw [d2]; exact hn
  have hlen : (depK V es).length ≤ 6 := by
    have h1 := nodup_lt 6 (es.map (·.1)) (by rw [d2]; exact G.dnd b hb) fun x hx => by
      obtain ⟨p, hp, rfl⟩ := List.mem_map.mp hx
      exact O.six _ (hes p hp)
    unfold depK
    rw [List.length_map] at h1 ⊢
    exact h1
  refine enter S TS.fSub r.d (binds := [("self", .ref (V.x b)), ("dependent", .ref (V.x i))]) (fun _ _ _ _ _ _ => BindsTo.of_eq rfl) fun L cdv s' S => ?_
  refine pk3 (P1 := fun (m0 : Mp) => St C ρ (σ ++ τ) [(L, .fr "frame" m0)] s') (P2 := fun (m0 : Mp) => m0 "self" = some (.ref (V.x b))) (P3 := fun (m0 : Mp) => m0 "dependent" = some (.ref (V.x i))) _ (S) (rfl) (rfl) fun m0 S q1 q2 => ?_
  refine xcons (wpAny_Assign_Subscript (eTup (ldL S rfl q2 (xBin (xSub (xMeth (xAttr (ldL S rfl q1 (gProp S e1 e2 T.icDep fun s' S => dep_ok T TS SX hb S (Rm.le (Rm.in1 (n := 1) ((r.deeper (n := 2) _).le (by decide))) (by decide)) fun s' S => ⟨rfl, ?_⟩)))))))))
  refine gDGet (S.o d1) (cwB (xAttr (ldL S rfl q2 (gOwn S f1 f2 (T.icOwn _ rfl) fk fun s' S => eTup (cNone (cInt S fun t s' S => ⟨_, _, _, S, (by show 2 ≤ 100000; decide), fun t0 s' S => bDGet2 S (S.o d1) fun s' S => ?_⟩))))))
  rw [depK_none O hi hes hni]
  refine cInt S fun t1 s' S => sIdxT (v := .int 0 t) (j := 1) (S.at 1 rfl) (by decide) (by decide) rfl rfl ?_
  refine cInt S fun t2 s' S => wpAny_add_int ?_
  have S := S.tok (s'.toks + 1)
  refine ⟨_, _, _, S, (by show 2 ≤ 100000; decide), fun tt s' S => ?_⟩
  have nt := S.none_of_nth 2 rfl
  obtain ⟨ρ1, x1, ⟨t3, et⟩, S⟩ : ∃ ρ1, Ext ρ ρ1 ∧ (∃ t, ρ1 tt = some (.tup [.ref (V.x i), .int 1 t])) ∧ St C ρ1 (σ ++ τ) [(L, .fr "frame" m0), (t0, .tup [.none, .int 0 t])] s' := ⟨_, ext_upd _ nt, ⟨_, upd_self ..⟩, S.give 2 rfl⟩
  refine xAttr (ldL S rfl q1 (gOwn S (x1 _ _ e1) (x1 _ _ e2) (T.icOwn _ rfl) M.dep fun s' S => xAttr (ldL S rfl q2 (gOwn S (x1 _ _ f1) (x1 _ _ f2) (T.icOwn _ rfl) fk fun s' S => hDSet (S.o (x1 _ _ d1)) (Nat.le_trans hlen (by decide)) fun s' cg tt' => ?_))))
  have S := S.setO (x1 _ _ d1) cg tt'
  rw [stored_new (depK_none O hi hes hni)] at S
  have em : depK V es ++ [(V.key i, Value.ref tt)] = depK V (es ++ [(i, tt)]) := by simp [depK]
  rw [em] at S
  have x2 := extB_upd ρ1 (V.dep b) (.idict (depK V (es ++ [(i, tt)])))
  have e3 : upd ρ1 (V.dep b) (.idict (depK V (es ++ [(i, tt)]))) (V.dep b) = some (.idict (depK V (es ++ [(i, tt)]))) := upd_self ..
  generalize upd ρ1 (V.dep b) (.idict (depK V (es ++ [(i, tt)]))) = ρ2 at S x2 e3
  have xe : ExtD [V.dep b] ρ1 ρ2 := ExtB.ed x2 (x1 _ _ d1) (.inr ⟨_, rfl⟩)
  have xd : ExtD [V.dep b] ρ ρ2 := (Ext.ed x1).trans xe
  have ap := SX.apart O hb hb
  refine wpAny_execs_nil (h ρ2 s' xd ?_ S.forget.back0)
  refine (SX.ext x1).turn (g' := g.addD b i) O hb (xe.mono fun d hd => by simp at hd; simp [hd]) (fun j hj => ⟨rfl, if_neg hj, rfl⟩) ⟨?_, ⟨z, m, ?_, hz, M.ext xd rfl rfl⟩, ⟨es ++ [(i, tt)], e3, ?_, fun p hp => ?_⟩, ?_⟩
  · exact xd _ _ e1 (.inr ⟨by intro _ _ q; (cases q), by intro _ q; cases q⟩)
  · exact xd _ _ e2 (.inl (notin1 ap.1))
  · show _ = (if b = b then g.ds b ++ [i] else g.ds b)
    rw [if_pos rfl, List.map_append, d2]; rfl
  · rcases List.mem_append.mp hp with hp | hp
    · obtain ⟨t', ht'⟩ := d3 p hp
      exact ⟨t', xd.tup ht'⟩
    · cases List.mem_singleton.mp hp
      exact ⟨t3, xe.tup et⟩
  · obtain ⟨kv, k1, k2⟩ := dimp
    exact ⟨kv, xd _ _ k1 (.inl (notin1 (O.apart b b hb hb).symm)), k2⟩
end
end Mine
end
section
open PySem PySem.W PyProof.Rows PySem.Calls
set_option Elab.async false
set_option maxRecDepth 100000
set_option linter.unusedVariables false
set_option linter.unusedSimpArgs false
set_option maxHeartbeats 2000000
namespace Mine
open PySem (Sem Str Value Heap Obj Shared)
section
variable {C : Cx} {a : Adr} {ρ : Wd} {τ σ : Lc} {s : Shared} {A : Around} {E : Value → Shared → Prop} {R : Result → Shared → Prop} {V : Vo} {g : Gs} {b i : Nat}
theorem depK_without (O : V.Ok) (hi : V.live i) : ∀ {es : List (Nat × Addr)}, (∀ p, p ∈ es → V.live p.1) → without (depK V es) (V.key i) = depK V (es.filter fun p => decide (p.1 ≠ i))
  | [], _ => rfl
  | p :: es, hl => by
    have ih := depK_without O hi (es := es) fun q hq => hl q (.tail _ hq)
    unfold without depK at ih ⊢
    rw [List.map_cons, List.filter_cons, List.filter_cons]
    by_cases q : p.1 = i
    · rw [if_neg (by simp [q]), if_neg (by simp [q])]; exact ih
    · have : V.key p.1 ≠ V.key i := fun e => q (O.kinj p.1 i (hl p (.head _)) hi e)
      rw [if_pos (by simpa using this), if_pos (by simpa using q), List.map_cons, ih]
theorem unsubscribe_ok (T : Text C a) (TS : TextS C a) (O : V.Ok) (G : g.Ok V) (SX : Spx ρ a V g) (hb : V.live b) (hi : V.live i) (hn : i ∈ g.ds b) (S : St C ρ τ σ s) (r : Rm A 3)
    (h : ∀ ρ' s', ExtD [V.dep b] ρ ρ' → Spx ρ' a V (g.delD b i) → St C ρ' τ σ s' → R (.ok (.ret .none)) s') :
    codeAny C.M A (.call (.ref a.unsubscribe) ⟨[.ref (V.x b), .ref (V.x i)], []⟩) R s := by
  obtain ⟨e1, ⟨z, m, e2, hz, M⟩, ⟨es, d1, d2, d3⟩, dimp⟩ := SX b hb
  refine Spx.el1 SX hi fun f1 zi mi f2 hzi Mi => ?_
  obtain ⟨tk, fk⟩ := Mi.key
  have hes : ∀ p, p ∈ es → V.live p.1 := fun p hp => (G.dep b hb p.1 (by rw [← d2]; exact List.mem_map_of_mem (f := (·.1)) hp)).1
  have hnd : (es.map (·.1)).Nodup := by rw [d2]; exact G.dnd b hb
  obtain ⟨tt, hit⟩ : ∃ tt, (i, tt) ∈ es := by
    rw [← d2] at hn
    obtain ⟨⟨i', tt⟩, hp, e⟩ := List.mem_map.mp hn
    exact ⟨tt, e ▸ hp⟩
  have hval := depK_get (V := V) O hes hnd hit
  obtain ⟨t1, ht1⟩ := d3 _ hit
  have hlen : (depK V es).length ≤ 6 := by
    have h1 := nodup_lt 6 (es.map (·.1)) hnd fun x hx => by
      obtain ⟨p, hp, rfl⟩ := List.mem_map.mp hx
      exact O.six _ (hes p hp)
    unfold depK
    rw [List.length_map] at h1 ⊢
    exact h1
  refine enter S TS.fUnsub r.d (binds := [("self", .ref (V.x b)), ("dependent", .ref (V.x i))]) (fun _ _ _ _ _ _ => BindsTo.of_eq rfl) fun L cdv s' S => ?_
  refine pk3 (P1 := fun (m0 : Mp) => St C ρ (σ ++ τ) [(L, .fr "frame" m0)] s') (P2 := fun (m0 : Mp) => m0 "self" = some (.ref (V.x b))) (P3 := fun (m0 : Mp) => m0 "dependent" = some (.ref (V.x i))) _ (S) (rfl) (rfl) fun m0 S q1 q2 => ?_
  refine xcons (xAsg (xSub (xSub (xAttr (ldL S rfl q1 (gOwn S e1 e2 (T.icOwn _ rfl) M.dep fun s' S => xAttr (ldL S rfl q2 (gOwn S f1 f2 (T.icOwn _ rfl) fk fun s' S => sDGet S (S.o d1) hval fun s' S => ?_))))))))
  refine cInt S fun t2 s' S => sIdxT (v := .int 1 t1) (j := 1) (S.o ht1) (by decide) (by decide) rfl rfl (stL S rfl fun s' S => ?_)
  refine xcons (wpAny_AugAssign_Name (lnL S rfl rfl (cInt S fun t3 s' S => P.isub_int ?_)))
  have S := S.tok (s'.toks + 1)
  refine stL S rfl fun s' S => ?_
  obtain ⟨m1, S, u1, u2, ⟨t4, u3⟩⟩ : ∃ m1 : Mp, St C ρ (σ ++ τ) [(L, .fr "frame" m1)] s' ∧ m1 "self" = some (.ref (V.x b)) ∧ m1 "dependent" = some (.ref (V.x i)) ∧ ∃ t4, m1 "n" = some (.int 0 t4) := ⟨_, S, q1, q2, _, rfl⟩
  refine xcons (wpAny_If (isTrue_not (isTrue_plain (ldL S rfl u3 (P.truthy_int ?_)))))
  rw [show (!((0 : Int) != 0)) = true from rfl, if_pos rfl]
  refine xcons (wpAny_Delete (wpAny_deleteEach_cons (delete_Subscript (xAttr (ldL S rfl u1 (gProp S e1 e2 T.icDep fun s' S => dep_ok T TS SX hb S (Rm.le (Rm.in1 (n := 1) ((r.deeper (n := 2) _).le (by decide))) (by decide)) fun s' S => ⟨rfl, ?_⟩))))))
  refine xAttr (ldL S rfl u2 (gOwn S f1 f2 (T.icOwn _ rfl) fk fun s' S => hDDel (S.o d1) (by rw [hval]; rfl) (Nat.le_trans hlen (by decide)) fun s' cg tt' => ?_))
  have S := S.setO d1 cg tt'
  rw [depK_without O hi hes] at S
  have x2 := extB_upd ρ (V.dep b) (.idict (depK V (es.filter fun p => decide (p.1 ≠ i))))
  have e3 : upd ρ (V.dep b) (.idict (depK V (es.filter fun p => decide (p.1 ≠ i)))) (V.dep b) = some (.idict (depK V (es.filter fun p => decide (p.1 ≠ i)))) := upd_self ..
  generalize upd ρ (V.dep b) (.idict (depK V (es.filter fun p => decide (p.1 ≠ i)))) = ρ2 at S x2 e3
  have xd : ExtD [V.dep b] ρ ρ2 := ExtB.ed x2 d1 (.inr ⟨_, rfl⟩)
  have ap := SX.apart O hb hb
  refine wpAny_deleteEach_nil (wpAny_execs_nil (wpAny_execs_nil (h ρ2 s' xd ?_ S.forget.back0)))
  refine SX.turn (g' := g.delD b i) O hb (xd.mono fun d hd => by simp at hd; simp [hd]) (fun j hj => ⟨rfl, if_neg hj, rfl⟩) ⟨?_, ⟨z, m, ?_, hz, M.ext xd rfl rfl⟩, ⟨_, e3, ?_, fun p hp => ?_⟩, ?_⟩
  · exact xd _ _ e1 (.inr ⟨by intro _ _ q; (cases q), by intro _ q; cases q⟩)
  · exact xd _ _ e2 (.inl (notin1 ap.1))
  · show _ = (if b = b then (g.ds b).filter (· ≠ i) else g.ds b)
    rw [if_pos rfl, ← d2, List.filter_map]; rfl
  · obtain ⟨t', ht'⟩ := d3 p (List.mem_filter.mp hp).1
    exact ⟨t', xd.tup ht'⟩
  · obtain ⟨kv, k1, k2⟩ := dimp
    exact ⟨kv, xd _ _ k1 (.inl (notin1 (O.apart b b hb hb).symm)), k2⟩
end
end Mine
end
section
open PySem PySem.W PyProof.Rows PySem.Calls
set_option Elab.async false
set_option maxRecDepth 100000
set_option linter.unusedVariables false
set_option linter.unusedSimpArgs false
set_option maxHeartbeats 2000000
namespace Mine
open PySem (Sem Str Value Heap Obj Shared)
section
variable {C : Cx} {a : Adr} {ρ : Wd} {τ σ : Lc} {s : Shared} {A : Around} {E : Value → Shared → Prop} {Q : Value → Shared → Prop}
theorem isIC (P : isIn C.K (.ref a.ic) a.ic = true) (S : St C ρ τ σ s) {x dx : Addr} (e : ρ x = some (.ins a.ic dx)) (h : Q (.bool true) s) : wpAny C.M A (call (.builtin "isinstance") [.ref x, .ref a.ic]) Q E s := by
  obtain ⟨o, ho, hc, _⟩ := S.o e
  exact isi_call S.amb.x (fun M => hc ▸ (Looks.ld ho).andThen .now) P (fun q => nomatch q) h
end
end Mine
end
section
open PySem PySem.W PyProof.Rows PySem.Calls
set_option Elab.async false
set_option maxRecDepth 100000
set_option linter.unusedVariables false
set_option linter.unusedSimpArgs false
set_option maxHeartbeats 2000000
namespace Mine
open PySem (Sem Str Value Heap Obj Shared)
noncomputable def settle (V : Vo) (i : Nat) (l : List Nat) : List Nat :=
  match V.root i with
  | none => l
  | some r => if l = [] ∨ l.getLast? = some r then l else l.filter (fun k => decide (k ≠ r)) ++ [r]
noncomputable def c3S (V : Vo) (g : Gs) (i : Nat) : Option (List Nat) := c3v false (V.wo g) (fun j => some (g.so j)) i
noncomputable def ordS (V : Vo) (g : Gs) (i : Nat) : List Nat := settle V i ((c3S V g i).getD [])
noncomputable def stS (g : Gs) (i : Nat) (j : Nat) : Option (List Nat) := if j ∈ g.bs i then some (g.so j) else none
section
variable {C : Cx} {a : Adr} {ρ : Wd} {τ σ : Lc} {s : Shared} {A : Around} {E : Value → Shared → Prop} {R : Result → Shared → Prop} {V : Vo} {g : Gs} {b i : Nat} {l : List Env}
theorem stS_ov (O : V.Ok) (G : g.Ok V) (hi : V.live i) : ovS false (V.wo g) (stS g i) i = c3S V g i := by
  have hn : i ∉ g.bs i := fun q => Nat.lt_irrefl _ (G.cl i hi i q).2
  rw [ovS_eq (W := V.wo g) (G.wo O) hi (by unfold stS; rw [if_neg hn])]
  exact c3v_congr fun j hj => by
    have hj : j ∈ g.bs i := hj
    exact ovS_st (by unfold stS; rw [if_pos hj])
theorem stS_ok (O : V.Ok) (G : g.Ok V) (hi : V.live i) : OvNd (V.wo g) (ovS false (V.wo g) (stS g i)) := ovS_nd (W := V.wo g) (G.wo O) fun j hj xs h => by
  unfold stS at h
  split at h
  · cases h; exact G.so j hj
  · cases h
theorem PairsAt.snoc {W : Wo} {ov : Nat → Option (List Nat)} : ∀ {ts : List Addr} {l : List Nat} {t s : Addr} {j : Nat} {xs : List Nat}, PairsAt ρ W ov ts l → ρ t = some (.tup [.ref (W.x j), .ref s]) → ρ s = some (.tup (W.refs xs)) → ov j = some xs → PairsAt ρ W ov (ts ++ [t]) (l ++ [j])
  | [], [], _, s, _, xs, _, a, b, c => ⟨⟨s, xs, a, b, c⟩, trivial⟩
  | _ :: ts, _ :: l, _, _, _, _, h, a, b, c => ⟨h.1, PairsAt.snoc (ts := ts) (l := l) h.2 a b c⟩
theorem PairsAt.ext {ρ' : Wd} {W : Wo} {ov : Nat → Option (List Nat)} : ∀ {ts : List Addr} {l : List Nat}, PairsAt ρ W ov ts l → Ext ρ ρ' → PairsAt ρ' W ov ts l
  | [], [], _, _ => trivial
  | _ :: ts, _ :: l, h, x => ⟨let ⟨s, xs, a, b, c⟩ := h.1; ⟨s, xs, x _ _ a, x _ _ b, c⟩, PairsAt.ext (ts := ts) (l := l) h.2 x⟩
end
end Mine
end
section
open PySem PySem.W PyProof.Rows PySem.Calls
set_option Elab.async false
set_option maxRecDepth 100000
set_option linter.unusedVariables false
set_option linter.unusedSimpArgs false
namespace Mine
open PySem (Sem Str Value Heap Obj Shared)
inductive LaAt {α : Type} (C : Cx) (A : Around) (env : Env) (elt : Expr) (ifs : List Expr) (scope : Scope) (cl : List (Str × Addr)) (ρ : α → Wd) (fm : α → Mp) (σ : α → Lc) (P : Nat → α → List Value → Prop) (τ : Lc) (x y : Str) (Q : Flow → Shared → Prop) (itv : Value) (s₂ : Shared) : Prop
  | mk (I : Addr) (it : Nat → AObj) (vs : List Value) (dep : Heap → Prop) (x0 : α) (e : itv = .ref I) (W : Wk C A I it vs dep) (hz : vs.length ≤ Big) (S : St C (ρ x0) ((I, it 0) :: τ) ((env.locals, .fr "frame" (fm x0)) :: σ x0) s₂) (h0 : P 0 x0 [])
      (hdep : ∀ i x ys τ' σ' s, P i x ys → St C (ρ x) τ' (σ' ++ (env.locals, .fr "frame" (fm x)) :: σ x) s → dep s.heap)
      (turn : ∀ i y v ys L D m s, vs[i]? = some v → P i y ys → m x = some v → St C (ρ y) ((D, .list ys) :: (I, it (i + 1)) :: τ) ((L, .fr "dict" m) :: (env.locals, .fr "frame" (fm y)) :: σ y) s →
        wpAny C.M A (tests ifs (compEnvC scope cl L env)) (fun ok s₃ => if ok = true then wpAny C.M A (eval elt (compEnvC scope cl L env)) (LcDone C ρ (fun y => (env.locals, .fr "frame" (fm y)) :: σ y) P τ I (it (i + 1)) L m D (i + 1) ys) (fun _ _ => False) s₃
          else LcSkip C ρ (fun y => (env.locals, .fr "frame" (fm y)) :: σ y) P τ I (it (i + 1)) L m D (i + 1) ys s₃) (fun _ _ => False) s)
      (fin : ∀ z ys D s, P vs.length z ys → St C (ρ z) τ ((env.locals, .fr "frame" (Mp.put (fm z) y (.ref D))) :: σ z ++ [(D, .list ys)]) s → Q .next s) : LaAt C A env elt ifs scope cl ρ fm σ P τ x y Q itv s₂
section
variable {C : Cx} {τ : Lc} {s : Shared} {A : Around} {E : Value → Shared → Prop} {env : Env}
theorem assignComp_st {α : Type} {elt iter : Expr} {x y : Str} {px py : Pos} {ifs : List Expr} {scope : Scope} {pos spos : Pos} {cl : List (Str × Addr)} {Q : Flow → Shared → Prop} (ρ : α → Wd) (fm : α → Mp) (σ : α → Lc) (P : Nat → α → List Value → Prop)
    (hsw : swapsWith (.ListComp elt [⟨.Name x px, iter, ifs, 0⟩] scope pos) (some (.Name y py)) spos.line env = pure true)
    (hy : env.kindOf y = some .local) (hp : (env.scope.kind == .class || (env.scope.kind == .module && env.locals != env.globals)) = false)
    (hclos : closureFor scope env = pure cl)
    (hnames : (scope.names.all fun y => (y.2 != .local || scope.names.lookup y.1 == some .local) && y.2 != .cell) = true) (hx : scope.names.lookup x = some .local)
    (h : wpAny C.M A (eval iter env) (iterB C.M A E (LaAt C A env elt ifs scope cl ρ fm σ P τ x y Q)) E s)
    (hk : scope.kind = .function := by rfl)
    (hs : ∀ x, foldedSetIterable iter env x = pure x := by intro _; rfl) :
    wpAny C.M A (exec (.Assign [.Name y py] (.ListComp elt [⟨.Name x px, iter, ifs, 0⟩] scope pos) spos) env) Q E s := by
  have hc : (scope.names.all fun x => x.2 != .cell) = true := by
    rw [List.all_eq_true] at hnames ⊢
    intro y hy
    have := hnames y hy
    rw [Bool.and_eq_true] at this
    exact this.2
  have hn : ∀ y ∈ scope.names, y.2 = .local → scope.names.lookup y.1 = some .local := fun y hy e => by
    have := List.all_eq_true.mp hnames y hy
    rw [Bool.and_eq_true, Bool.or_eq_true] at this
    rcases this.1 with h | h
    · rw [e] at h; exact absurd h (by decide)
    · exact beq_iff_eq.mp h
  rw [exec_Assign_Name_used _ _ _ _ hsw]
  refine wpAny_bind (wpAny_standAt (wpAny_bind ?_))
  show wpAny _ A (do let _ ← comprehension (.ListComp elt [⟨.Name x px, iter, ifs, 0⟩] scope pos) scope env _ (newList []) false (eval iter env) (some (assign (.Name y py) env))) _ _ s
  refine wpAny_bind (wpAny_mono (wpAny_comprehension_free (use := some (assign (.Name y py) env)) (Q := fun _ s' => Q .next s') rfl hs hclos hk hn (wpAny_mono h (fun xv s₁ h₁ => wpAny_mono h₁ (fun itv s₂ h₂ => ?_) fun _ _ e => e) fun _ _ e => e)) (fun _ s' hq => wpAny_pure (wpAny_pure hq)) fun _ _ e => e)
  obtain ⟨I, it, vs, dep, x0, rfl, W, hz, S, hP, hdep, hturn, hfin⟩ := h₂
  refine wpAny_newList ?_
  have S1 := S.addT (pushG s₂ { cls := .type "list", data := .seq (([] : List Value).toArray) }) (none_size _) (x := .list []) ⟨_, Heap.get?_push_size _ rfl⟩
  generalize hD : s₂.heap.objs.size = D at S1
  refine compEnv_St S1 hc fun L s' S => ?_
  have loop : ∀ s', St C (ρ x0) ((D, .list []) :: (I, it 0) :: τ) ((L, .fr "dict" fun _ => none) :: (env.locals, .fr "frame" (fm x0)) :: σ x0) s' →
      codeAny C.M A (.compLoop (.ListComp elt [⟨.Name x px, iter, ifs, 0⟩] scope pos) 0 (.ref I) (.ref D) (compEnvC scope cl L env)) (compPost C.M A E (some (assign (.Name y py) env)) (fun _ s' => Q .next s') (.ref D) L) s' := by
    intro s' S
    have hxl : (compEnvC scope cl L env).kindOf x = some .local := lookup_relabel_local hx
    refine codeAny_compLoop_tests (fun n s => ∃ i z ys m, n = vs.length + 1 - i ∧ i ≤ vs.length ∧ ys.length ≤ i ∧ P i z ys ∧ St C (ρ z) ((D, .list ys) :: (I, it i) :: τ) ((L, .fr "dict" m) :: (env.locals, .fr "frame" (fm z)) :: σ z) s) ?_ (vs.length + 1 - 0)
      ⟨0, x0, [], _, rfl, Nat.zero_le _, Nat.le_refl _, hP, S⟩
    rintro n s ⟨i, z, ys, m, rfl, hi, hy', hP, S⟩
    rcases Nat.lt_or_eq_of_le hi with hlt | heq
    · refine W.item i vs[i] s _ _ (by simp [hlt]) (S.ta 1 rfl) (hdep i z ys _ [(L, .fr "dict" m)] s hP S) fun s' c t => ?_
      have S2 := S.setT2 c t
      refine wpAny_assign_Name (storeLocal_c hxl (S2.at 0 rfl) (fun h' n hs => ?_) (by show (scope.kind == .class || (scope.kind == .module && _)) = false; rw [hk]; rfl))
      have S3 := S2.setL (y := .fr "dict" fun y => if y = x then some vs[i] else m y) 0 rfl (.of (n := s'.toks + 1) hs) n
      refine wpAny_mono (hturn i z vs[i] ys L D _ _ (by simp [hlt]) hP (if_pos rfl) S3) (fun ok s₃ h₃ => ?_) fun _ _ f => f.elim
      cases ok with
      | false =>
        rw [if_neg Bool.false_ne_true] at h₃ ⊢
        obtain ⟨y', p, S4⟩ := h₃
        exact ⟨vs.length + 1 - (i + 1), by (with_reducible exact oz7 ‹_›), i + 1, y', ys, _, rfl, by (with_reducible exact Nat.succ_le_of_lt ‹_›), by (with_reducible exact Nat.le_succ_of_le ‹_›), p, S4⟩
      | true =>
        rw [if_pos rfl] at h₃ ⊢
        refine wpAny_mono h₃ (fun r s₄ h₄ => ?_) fun _ _ f => f.elim
        obtain ⟨y', p, S4⟩ := h₄
        refine wpAny_list_append_plain (S4.ta 0 rfl) (fun h' hl hs => ?_) (sz_toArray (n := Big) (by omega))
        have S5 := S4.setT (b := .list (ys ++ [r])) (.of (n := s₄.toks) hs) (by show h'.PlainList D (ys ++ [r]).toArray; rw [← List.push_toArray]; exact hl)
        exact ⟨vs.length + 1 - (i + 1), by (with_reducible exact oz7 ‹_›), i + 1, y', ys ++ [r], _, rfl, by (with_reducible exact Nat.succ_le_of_lt ‹_›), by rw [List.length_append, List.length_singleton]; (with_reducible exact Nat.succ_le_succ ‹_›), p, S5⟩
    · subst heq
      refine W.done s _ _ (S.ta 1 rfl) (hdep _ z ys _ [(L, .fr "dict" m)] s hP S) fun s' c => ?_
      have S2 := S.gone2 c
      show wpAny _ A (assign (.Name y py) env (.ref D)) _ _ _
      refine wpAny_assign_Name (storeLocal_c hy (S2.at 1 rfl) (fun h' n hs => ?_) hp)
      have S3 := S2.setL (y := .fr "frame" (Mp.put (fm z) y (.ref D))) 1 rfl (.of (n := s'.toks + 1) hs) n
      refine ⟨m, NsC.ns (S3.at 0 rfl), fun h' hs => ?_⟩
      have S4 := S3.goneL (.of (n := s'.toks + 1) hs)
      exact hfin z ys D _ hP (S4.perm (by rw [List.append_assoc]; exact .refl _))
  exact codeAny_compStart_list (loop s' S) (W.self 0 s' _ _ (S.ta 1 rfl) (loop s' S))
end
end Mine
end
section
open PySem PySem.W PyProof.Rows PySem.Calls
set_option Elab.async false
set_option maxRecDepth 100000
set_option linter.unusedVariables false
set_option linter.unusedSimpArgs false
set_option maxHeartbeats 2000000
namespace Mine
open PySem (Sem Str Value Heap Obj Shared)
section
variable {C : Cx} {a : Adr} {ρ : Wd} {τ σ : Lc} {s : Shared} {A : Around} {E : Value → Shared → Prop} {R : Result → Shared → Prop} {V : Vo} {g : Gs} {b i : Nat} {l : List Env}
theorem sIdxN {value slice : Expr} {i : Int} {t : Tok} {l : Addr} {xs : List Value} {v : Value} {Q : Value → Shared → Prop} (hl : s.heap.PlainList l xs.toArray) (h0 : i < 0) (h1 : -(xs.length : Int) ≤ i) (hf : -(2 ^ 63) ≤ i) (hx : xs[(i + xs.length).toNat]? = some v) (h : Q v s)
    (hs : subscripted slice false (.ref l) (.int i t) = operate [.ref l, .int i t] (getItem (.ref l) (.int i t)) := by with_unfolding_all rfl) :
    wpAny C.M A (subscriptTail value slice (.ref l) (.int i t)) Q E s :=
  tail_any hl.isList.typeIs slot_list_getitem.lookup (wpAny_getItem_list_neg hl.isList h0 (by rw [List.size_toArray]; exact h1) hf (by rw [List.size_toArray]; simpa using hx) h) hs
theorem calc_ok (T : Text C a) (TR : TextR C a) (TO : TextO C a) (TS : TextS C a) (O : V.Ok) (G : g.Ok V) (SX : Spx ρ a V g) (hi : V.live i) (S : St C ρ τ σ s) (r : Rm A 54) (hh : A.handled = none) (hA : A.frames = some l) (hF : FrOk (σ ++ τ) l)
    (hOk : ∀ la ρ' s', Ext ρ ρ' → St C ρ' τ (σ ++ [(la, .list (V.refs (ordS V g i)))]) s' → R (.ok (.ret (.ref la))) s') :
    codeAny C.M A (.call (.ref a.calcSro) ⟨[.ref (V.x i)], []⟩) R s := by
  have W : (V.wo g).Ok := G.wo O
  have N := SX.nodes
  have hnd := stS_ok O G hi
  refine Spx.el1 SX hi fun e1 z m e2 hz M => ?_
  obtain ⟨tb, b1, b2⟩ := M.bs
  refine enter S TS.fCalc r.d (binds := [("self", .ref (V.x i))]) (fun _ _ _ _ _ _ => BindsTo.of_eq rfl) fun L cdv s' S => ?_
  refine pk2 (P1 := fun (m0 : Mp) => St C ρ (σ ++ τ) [(L, .fr "frame" m0), (L + 1, .cell none)] s') (P2 := fun (m0 : Mp) => m0 "self" = some (.ref (V.x i))) _ (S) (rfl) fun m0 S q1 => ?_
  refine xcons (xAsg (CallKw_ (ldG S (T.glob _ _ rfl) (cwKw1 TO.fRo.keep (ldL S rfl q1 ?_)))))
  refine listComp_st (τ := σ ++ τ) (α := Wd × List Addr) (E' := fun _ _ => False) (fun y => y.1) (fun _ => [(L, .fr "frame" m0), (L + 1, .cell none)])
    (fun k y ys => Ext ρ y.1 ∧ ys = adrs y.2 ∧ PairsAt y.1 (V.wo g) (ovS false (V.wo g) (stS g i)) y.2 ((g.bs i).take k)) rfl (by rfl) rfl (fun _ _ _ f => f.elim) ?_
  refine xAttr (ldL S rfl q1 (gOwn S e1 e2 (T.icOwn _ rfl) b1 fun s' S => itTup S (S.o b2) fun I s' S _ => ⟨I, _, V.refs (g.bs i), _, (ρ, []), rfl, Wk.tup (by exact hh) I tb (V.refs (g.bs i)), ?_, S, ⟨.refl _, rfl, trivial⟩, ?_, ?_, ?_⟩))
  · rw [Vo.refs, List.length_map]; exact Nat.le_trans (G.len i hi) (by decide)
  · rintro k ⟨ρk, lk⟩ ys τ' σ' s ⟨x1, _⟩ S
    exact S.o (x1 _ _ b2)
  · rintro k ⟨ρk, lk⟩ v ys Lc D mc s hv ⟨x1, hys, hp⟩ hmv S
    dsimp only at x1 hys hp S
    obtain ⟨j, hj, rfl⟩ : ∃ j, (g.bs i)[k]? = some j ∧ v = .ref (V.x j) := by
      rw [Vo.refs, List.getElem?_map, Option.map_eq_some_iff] at hv
      obtain ⟨x, e, q⟩ := hv; exact ⟨x, e, q.symm⟩
    have hjm := List.mem_of_getElem? hj
    have c := G.cl i hi j hjm
    refine Spx.el1 SX c.1 fun f1 zj mj f2 hzj Mj => ?_
    obtain ⟨ts, t1, t2⟩ := Mj.sro
    refine tests_nil ?_
    rw [if_pos rfl]
    refine eTup (ldL S rfl hmv (xAttr (ldL S rfl hmv (gOwn S (x1 _ _ f1) (x1 _ _ f2) (T.icOwn _ rfl) t1 fun s' S => ⟨_, _, _, S, (by show 2 ≤ 100000; decide), fun tt s' S => ?_⟩))))
    have nt := S.none_of_nth 3 rfl
    have S := S.give 3 rfl
    have x2 : Ext ρk (upd ρk tt (.tup [.ref (V.x j), .ref ts])) := ext_upd _ nt
    refine ⟨(upd ρk tt (.tup [.ref (V.x j), .ref ts]), lk ++ [tt]), ⟨x1.trans x2, ?_, ?_⟩, S⟩
    · rw [hys]; simp [adrs]
    · show PairsAt _ _ _ (lk ++ [tt]) ((g.bs i).take (k + 1))
      rw [List.take_add_one, hj]
      exact (hp.ext x2).snoc (W := V.wo g) (upd_self ..) (x2 _ _ (x1 _ _ t2)) (ovS_st (by unfold stS; rw [if_pos hjm]))
  · rintro ⟨ρk, lk⟩ ys D s ⟨x1, hys, hp⟩ S
    dsimp only at x1 hys hp S
    subst hys
    have hp : PairsAt ρk (V.wo g) (ovS false (V.wo g) (stS g i)) lk (g.bs i) := by
      rw [Vo.refs, List.length_map, List.take_length] at hp; exact hp
    refine S.giveE 2 rfl fun ρ2 x2 eD S => ?_
    refine ⟨S.amb.x, wpAny_call ?_⟩
    refine roB_ok T TR TO W (hnd.ok W) (N.ext (x1.trans x2)) hi eD (hp.ext x2) (fun j hj hn => ovS_eq W hj (by unfold stS; exact if_neg hn)) S ((r.deeper (n := 53) _).le (by decide)) hh (Around.frames_deeper hA) (FrOk.own S rfl hF) fun xs la ρ3 s' ho x3 S => ?_
    have hc : c3S V g i = some xs := (stS_ov O G hi).symm.trans ho
    have hord : ordS V g i = settle V i xs := by rw [ordS, hc]; rfl
    have hxs := hnd i hi xs ho
    have hx6 := nodup_lt 6 xs hxs.1 fun k hk => O.six k (hxs.2 k hk).1
    have X := (x1.trans x2).trans x3
    rw [hord] at hOk
    refine stL S rfl fun s' S => ?_
    refine pk3 (P1 := fun (m1 : Mp) => St C ρ3 (σ ++ τ) [(L, .fr "frame" m1), (L + 1, .cell none), (la, .list (V.refs xs))] s') (P2 := fun (m1 : Mp) => m1 "self" = some (.ref (V.x i))) (P3 := fun (m1 : Mp) => m1 "sro" = some (.ref la)) _ (S) (q1) (rfl) fun m1 S u1 u2 => ?_
    have hrt : handedIn (V.rootV i) = true := by unfold Vo.rootV; cases V.root i <;> rfl
    refine xcons (xAsg (xAttr (ldL S rfl u1 (gOwn S (X _ _ e1) (X _ _ e2) (T.icOwn _ rfl) M.root (fun s' S => stC S 1 rfl fun s' S => ?_) hrt))))
    obtain ⟨rv, hrv, S⟩ : ∃ rv, rv = V.rootV i ∧ St C ρ3 (σ ++ τ) [(L, .fr "frame" m1), (L + 1, .cell (some rv)), (la, .list (V.refs xs))] s' := ⟨_, rfl, S⟩
    unfold Vo.rootV at hrv
    have hlen : (V.refs xs).length ≤ Big := by rw [Vo.refs, List.length_map]; exact Nat.le_trans hx6 (by decide)
    have plain : settle V i xs = xs → ∀ s', St C ρ3 (σ ++ τ) [(L, .fr "frame" m1), (L + 1, .cell (some rv)), (la, .list (V.refs xs))] s' → R (.ok (.ret (.ref la))) s' := fun hs s' S => by
      rw [hs] at hOk
      exact hOk la ρ3 s' X (St.back (S.sub (List.Sublist.cons _ (List.Sublist.cons _ (.refl _)))))
    cases hroot : V.root i with
    | none =>
      rw [hroot] at hrv
      rw [hrv] at S plain
      refine xcons (wpAny_If (isTrue_and (xCmp (ldC S 1 rfl (cNone (wpAny_isNot_self rfl (wpAny_truthy_bool ?_)))))))
      rw [if_neg Bool.false_ne_true, if_neg Bool.false_ne_true]
      refine wpAny_execs_nil (xcons (wpAny_Return_some (ldL S rfl u2 (plain ?_ _ S))))
      rw [settle, hroot]
    | some rt =>
      rw [hroot] at hrv
      dsimp only at hrv
      rw [hrv] at S plain
      have hlr := O.root i rt hi hroot
      refine xcons (wpAny_If (isTrue_and (xCmp (ldC S 1 rfl (cNone (wpAny_isNot_other rfl (fun q => nomatch q) (wpAny_truthy_bool ?_)))))))
      rw [if_pos rfl]
      refine isTrue_and (isTrue_plain (ldL S rfl u2 (tList S (S.at 2 rfl) hlen fun s' S => ?_)))
      by_cases hne : xs = []
      · have : (!(V.refs xs).isEmpty) = false := by rw [hne]; rfl
        rw [this, if_neg Bool.false_ne_true, if_neg Bool.false_ne_true]
        refine wpAny_execs_nil (xcons (wpAny_Return_some (ldL S rfl u2 (plain ?_ _ S))))
        rw [settle, hroot]; dsimp only; rw [if_pos (.inl hne)]
      · have : (!(V.refs xs).isEmpty) = true := by
          cases xs with
          | nil => exact absurd rfl hne
          | cons _ _ => rfl
        rw [this, if_pos rfl]
        refine isTrue_and (xCmp (xSub (ldL S rfl u2 ?_)))
        have hpos : 0 < xs.length := List.length_pos_iff.mpr hne
        obtain ⟨k, hk⟩ : ∃ k, xs[xs.length - 1]? = some k := ⟨_, List.getElem?_eq_getElem (by (with_reducible exact oz8 ‹_›))⟩
        have hlast : xs.getLast? = some k := by rw [List.getLast?_eq_getElem?]; exact hk
        have hkm := List.mem_of_getElem? hk
        have hrl : (V.refs xs).length = xs.length := by rw [Vo.refs, List.length_map]
        refine UnaryOp_ (cInt S fun t s' S => P.neg_int ?_)
        have S := S.tok (s'.toks + 1)
        refine sIdxN (v := .ref (V.x k)) (S.at 2 rfl) (by decide) (by rw [hrl]; omega) (by decide) ?_ (ldC S 1 rfl (nIsNot W (N.ext X) (hxs.2 k hkm).1 hlr.1 S (wpAny_truthy_bool ?_)))
        · have : ((-1 : Int) + ((V.refs xs).length : Int)).toNat = xs.length - 1 := by rw [hrl]; omega
          rw [this, Vo.refs, List.getElem?_map, hk]; rfl
        by_cases hkr : k = rt
        · rw [decide_eq_true hkr]
          rw [if_neg (show ¬ ((!true) = true) from Bool.false_ne_true), if_neg Bool.false_ne_true]
          refine wpAny_execs_nil (xcons (wpAny_Return_some (ldL S rfl u2 (plain ?_ _ S))))
          rw [settle, hroot]; dsimp only; rw [if_pos (.inr (by rw [hlast, hkr]))]
        · rw [decide_eq_false hkr]
          rw [if_pos (show (!false) = true from rfl)]
          refine isTrue_and_nil ?_
          rw [if_pos rfl]
          have hset : settle V i xs = xs.filter (fun k => decide (k ≠ rt)) ++ [rt] := by
            rw [settle, hroot]; dsimp only
            rw [if_neg (fun q => q.elim hne fun q => hkr (Option.some.inj (hlast.symm.trans q)))]
          rw [hset] at hOk
          refine xcons (assignComp_st (τ := σ ++ τ) (α := Unit) (fun _ => ρ3) (fun _ => m1) (fun _ => [(L + 1, .cell (some (.ref (V.x rt)))), (la, .list (V.refs xs))])
            (fun q _ ys => ys = V.refs ((xs.take q).filter fun k => decide (k ≠ rt))) rfl rfl rfl rfl (by rfl) rfl ?_)
          refine ldL S rfl u2 (itList S (S.at 2 rfl) fun I s' S _ => ⟨I, _, V.refs xs, fun h => h.PlainList la (V.refs xs).toArray, (), rfl, Wk.list (by exact hh) I la (V.refs xs), hlen, S, rfl, ?_, ?_, ?_⟩)
          · rintro q _ ys τ' σ' s _ S
            exact (S.loc (la, .list (V.refs xs)) (List.mem_append_left _ (List.mem_append_right _ (.tail _ (.tail _ (.head _)))))).1
          · rintro q _ v ys L2 D2 m2 s hv hys hmv S
            obtain ⟨k2, hk2, rfl⟩ : ∃ j, xs[q]? = some j ∧ v = .ref (V.x j) := by
              rw [Vo.refs, List.getElem?_map, Option.map_eq_some_iff] at hv
              obtain ⟨x, e, w⟩ := hv; exact ⟨x, e, w.symm⟩
            have hl2 := (hxs.2 k2 (List.mem_of_getElem? hk2)).1
            have htk : xs.take (q + 1) = xs.take q ++ [k2] := by rw [List.take_add_one, hk2]; rfl
            refine tests_one (xCmp (ldL S rfl hmv (ldC S 2 rfl (nIsNot W (N.ext X) hl2 hlr.1 S (wpAny_truthy_bool ?_)))))
            by_cases hq : k2 = rt
            · rw [decide_eq_true hq, if_neg (show ¬ ((!true) = true) from Bool.false_ne_true)]
              refine ⟨(), ?_, S⟩
              rw [hys, htk, List.filter_append]; simp [hq]
            · rw [decide_eq_false hq, if_pos (show (!false) = true from rfl)]
              refine ldL S rfl hmv ⟨(), ?_, S⟩
              rw [hys, htk, List.filter_append]; simp [Vo.refs, hq]
          · rintro _ ys D s hys S
            have hys : ys = V.refs (xs.filter fun k => decide (k ≠ rt)) := by rw [hys, hrl, List.take_length]
            subst hys
            refine pk2 (P1 := fun (m3 : Mp) => St C ρ3 (σ ++ τ) [(L, .fr "frame" m3), (L + 1, .cell (some (.ref (V.x rt)))), (la, .list (V.refs xs)), (D, .list (V.refs (xs.filter fun k => decide (k ≠ rt))))] s) (P2 := fun (m3 : Mp) => m3 "sro" = some (.ref D)) _ (S) (rfl) fun m3 S w1 => ?_
            refine xcons (wpAny_Expr_any (xMeth (ldL S rfl w1 (gAppend (S.at 3 rfl) (cwB (ldC S 1 rfl (bAppend S 3 rfl ?_ fun s' S => ?_)))))))
            · rw [Vo.refs, List.length_map]
              exact Nat.le_trans (List.length_filter_le ..) (Nat.le_trans hx6 (by decide))
            have ea : V.refs (xs.filter fun k => decide (k ≠ rt)) ++ [Value.ref (V.x rt)] = V.refs (xs.filter (fun k => decide (k ≠ rt)) ++ [rt]) := by simp [Vo.refs]
            rw [ea] at S
            refine wpAny_execs_nil (xcons (wpAny_Return_some (ldL S rfl w1 ?_)))
            exact hOk D ρ3 _ X (St.back (S.sub (List.Sublist.cons _ (List.Sublist.cons _ (List.Sublist.cons _ (.refl _))))))
end
end Mine
end
section
open PySem PySem.W PyProof.Rows PySem.Calls
set_option Elab.async false
set_option maxRecDepth 100000
set_option linter.unusedVariables false
set_option linter.unusedSimpArgs false
namespace Mine
open PySem (Sem Str Value Heap Obj Shared)
section
variable {prog : Program} {w : World} {A : Around} {E : Value → Shared → Prop} {s : Shared} {T : String} {r d : Addr} {n : Nat} {P : Nat → Value → Prop} {OK : Heap → Prop}
theorem collect_kdl {Q : List Value → Shared → Prop} (K : KdlSrc prog w T r d n P OK) (hh : A.handled = none) (hok : OK s.heap) (hn : n ≤ sizeLine)
    (hQ : ∀ (h' : Heap) (tk : Nat) (vs : Array Value), (∀ b o', s.heap.get? b = some o' → h'.get? b = some o') → ItemsOf P vs n → Q vs.toList { s with heap := h', toks := tk }) :
    wpAny (model prog w) A (collect (.ref r)) Q E s := by
  unfold collect
  refine wpAny_bind (wpAny_runValue (codeAny_builtin PySem.F.entry_proto_collect ?_))
  rw [Around.under_plainId PySem.F.plain_proto_collect _]
  show wpAny _ A.in1 (newList [] >>= fun l => again (.builtin "list.__iadd__" ⟨[l, .ref r], []⟩)) _ _ s
  refine wpAny_bind (wpAny_newObj_type ?_)
  refine wpAny_pure ⟨plainId_quiet PySem.F.plain_list_iadd _, codeAny_builtin PySem.F.entry_list_iadd ?_⟩
  rw [Around.under_plainId PySem.F.plain_list_iadd _]
  show wpAny _ A.in1 (Builtin.List.listExtendWith (.ref s.heap.objs.size) (.ref r) (.ref s.heap.objs.size)) _ _ _
  have hS : (s.heap.push { cls := .type "list", data := .seq ([] : List Value).toArray }).get? s.heap.objs.size = some { cls := .type "list", data := .seq #[] 0 } := Heap.get?_push_size _ rfl
  have hlt := K.there _ hok
  have fin' : ∀ (h' : Heap) (tk : Nat) (acc' : Array Value) (c' : Nat), (∀ b o, b ≠ s.heap.objs.size → (s.heap.push { cls := .type "list", data := .seq ([] : List Value).toArray }).get? b = some o → h'.get? b = some o) → h'.get? s.heap.objs.size = some { cls := .type "list", dict := none, data := .seq acc' c', slots := #[] } → ItemsOf P acc' n → wpAny (model prog w) A (match Value.ref s.heap.objs.size with
      | Value.ref a => do
        match (← load a).data with
          | Data.seq xs _ => pure xs.toList
          | _ => unsupported "internal:collect"
      | _ => unsupported "internal:collect") Q E { s with heap := h', toks := tk } := fun h' tk acc' c' hk hS' hacc => by
    show wpAny _ A (load s.heap.objs.size >>= _) _ _ _
    refine wpAny_bind (wpAny_load hS' ?_)
    refine wpAny_pure ?_
    exact hQ h' tk acc' (fun b o' hb => hk b o' (Nat.ne_of_lt (Heap.lt_size hb)) (Heap.get?_push_of_some _ hb)) hacc
  refine wpAny_mono (kdl_extend (A := A) (R := fun r s' => r = .ok (.ret (.ref s.heap.objs.size)) ∧ wpAny (model prog w) A (match Value.ref s.heap.objs.size with
      | Value.ref a => do
        match (← load a).data with
          | Data.seq xs _ => pure xs.toList
          | _ => unsupported "internal:collect"
      | _ => unsupported "internal:collect") Q E s')
    (s := { s with heap := s.heap.push { cls := .type "list", data := .seq ([] : List Value).toArray } }) K hh (K.keep _ _ hok fun b _ o e => Heap.get?_push_of_some _ e) _ (Nat.ne_of_gt hlt.1) (Nat.ne_of_gt hlt.2) _ 0 hS (fun h' tk acc' c' hk hS' hacc => ⟨rfl, fin' h' tk acc' c' hk hS' hacc⟩) hn) (fun fin s' h => ?_) (fun e s' h => ?_)
  · cases fin with
    | done f =>
      obtain ⟨e, h⟩ := h
      cases e
      exact h
    | again c' => exact ⟨h.1, codeAny_mono h.2 fun r s'' hr => by obtain ⟨rfl, hr⟩ := hr; exact hr⟩
  · exact absurd h.1 (by simp)
theorem code_tuple_new_kdl {Q₁ : Value → Shared → Prop} (K : KdlSrc prog w T r d n P OK) (hh : A.handled = none) (hok : OK s.heap) (hn : n ≤ sizeLine)
    (h : ∀ (h' : Heap) (tk : Nat) (acc : Array Value), (∀ b o', s.heap.get? b = some o' → h'.get? b = some o') → ItemsOf P acc n → Q₁ (.ref h'.objs.size) { s with heap := h'.push { cls := .type "tuple", data := .seq acc }, toks := tk }) :
    codeAny (model prog w) A (.call (.builtin "tuple.__new__") ⟨[.type "tuple", .ref r], []⟩) (wants Q₁ E) s := by
  refine codeAny_of_tree ?_
  show wpAny _ A.in1 (do checkBuiltinCall "tuple.__new__" ⟨[.type "tuple", .ref r], []⟩; again (.builtin "tuple.__new__" ⟨[.type "tuple", .ref r], []⟩)) _ _ s
  refine wpAny_bind (wpAny_of_eq (PySem.F.newCall_tuple_1 _) (wpAny_pure ⟨plainId_quiet PySem.F.plain_tuple_new _, codeAny_builtin PySem.F.entry_tuple_new ?_⟩))
  rw [Around.under_plainId PySem.F.plain_tuple_new _]
  have hsub := sub_tuple_self
  have hinit := init_tuple_lookup
  have hmh := madeHere_tuple
  have hTI := K.type s hok
  have hnt := K.notTuple
  have hh' : A.in1.handled = none := hh
  wp_walk using wpAny_typeOf hTI, collect_kdl K hh' hok hn
  intro h' tk acc hk hacc
  show wpAny _ _ (Builtin.Tuple.tupleExact acc.toList.toArray >>= fun v => ret v) _ _ _
  unfold Builtin.Tuple.tupleExact
  refine wpAny_bind (wpAny_newObj_type ?_ (by show acc.toList.toArray.size ≤ sizeLine; simp only [Array.toArray_toList]; rw [hacc.1]; exact hn))
  refine wpAny_pure ?_
  have e : acc.toList.toArray = acc := by simp
  rw [e]
  exact h h' tk acc hk hacc
theorem call_tuple_kdl {Q : Value → Shared → Prop} (K : KdlSrc prog w T r d n P OK) (hh : A.handled = none) (hok : OK s.heap) (hn : n ≤ sizeLine)
    (hQ : ∀ (h' : Heap) (tk : Nat) (acc : Array Value), (∀ b o', s.heap.get? b = some o' → h'.get? b = some o') → ItemsOf P acc n → Q (.ref h'.objs.size) { s with heap := h'.push { cls := .type "tuple", data := .seq acc }, toks := tk }) :
    wpAny (model prog w) A (call (.type "tuple") [.ref r]) Q E s := by
  refine callType_codes (Q₁ := fun obj s₁ => s₁.TypeIs obj "tuple" ∧ Q obj s₁) PySem.F.called_tuple (PySem.F.typeCall_tuple_1 _) PySem.F.entry_object_init
    (code_tuple_new_kdl K (by exact hh) hok hn fun h' tk acc hm hacc => ⟨⟨_, Heap.get?_push_size _ rfl, rfl⟩, hQ h' tk acc hm hacc⟩) fun obj s₁ h₁ => ?_
  exact ⟨h₁.1, PySem.F.args_object_init_2 obj _, object_init_meets PySem.F.called_tuple.init.lookup PySem.F.called_tuple.made (by decide) prog w A.in1 _ s₁ ⟨h₁.1, rfl, h₁.2⟩⟩
end
section
variable {C : Cx} {ρ : Wd} {τ σ : Lc} {s : Shared} {A : Around} {E : Value → Shared → Prop} {Q : Value → Shared → Prop}
noncomputable abbrev vwO (d : Addr) : AObj := .pd fun c dt => c = .type "dict_values" ∧ dt = .fields #[.ref d]
theorem bTupValues {r d : Addr} {kvs : List (Int × Value)} (S : St C ρ τ σ s) (hh : A.handled = none) (hr : (vwO d).At C s.heap r) (hd : (AObj.idict kvs).At C s.heap d) (hz : kvs.length ≤ Big)
    (h : ∀ l s', St C ρ τ (σ ++ [(l, .tup (kvs.map (·.2)))]) s' → Q (.ref l) s') : wpAny C.M A (call (.type "tuple") [.ref r]) Q E s := by
  obtain ⟨ep, hat⟩ := hd.1.dictAt
  obtain ⟨o, ho, hc, hdt⟩ := hr
  refine call_tuple_kdl (kdl_values (knd := intKind C.prog C.w) (kvs := kvs) (ep := ep)) hh ⟨⟨o, ho, hc, hdt⟩, hat⟩ (by rw [sizeLine_eq]; exact Nat.le_trans hz (by decide)) fun h' tk acc hk hacc => ?_
  have e : acc.toList = kvs.map (·.2) := kdl_vals_eq acc.toList (by rw [Array.length_toList]; exact hacc.1) fun j v e => hacc.2 j v (by rw [← Array.getElem?_toList]; exact e)
  have S' : St C ρ τ σ { s with heap := h', toks := tk } := S.grow ⟨hk, rfl, fun x => x⟩
  have S2 := S'.newTup (kvs.map (·.2))
  rw [← e, Array.toArray_toList] at S2
  rw [e] at S2
  exact h _ _ S2
end
end Mine
end
section
open PySem
set_option Elab.async false
namespace Mine
open PySem (Sem Str Value Heap Obj Shared)
noncomputable def Gs.setSo (g : Gs) (i : Nat) (l : List Nat) : Gs := { g with so := fun j => if j = i then l else g.so j }
noncomputable def chgN (V : Vo) : Nat → Gs → Nat → Gs
  | 0, g, _ => g
  | n + 1, g, i => (g.ds i).foldl (chgN V n) (g.setSo i (ordS V g i))
theorem settle_wf {V : Vo} (O : V.Ok) {i : Nat} (hi : V.live i) {l : List Nat} (h : l.Nodup ∧ ∀ k, k ∈ l → V.live k ∧ V.rk k ≤ V.rk i) : (settle V i l).Nodup ∧ ∀ k, k ∈ settle V i l → V.live k ∧ V.rk k ≤ V.rk i := by
  unfold settle
  cases q : V.root i with
  | none => exact h
  | some r =>
    dsimp only
    split
    · exact h
    · refine ⟨List.nodup_append.mpr ⟨h.1.filter _, by simp, fun a ha c hc e => ?_⟩, fun k hk => ?_⟩
      · simp at hc; subst hc; subst e
        simp at ha
      · rcases List.mem_append.mp hk with hk | hk
        · exact h.2 k (List.mem_filter.mp hk).1
        · simp at hk; subst hk; exact O.root i k hi q
theorem ordS_wf {V : Vo} {g : Gs} (O : V.Ok) (G : g.Ok V) {i : Nat} (hi : V.live i) : (ordS V g i).Nodup ∧ ∀ k, k ∈ ordS V g i → V.live k ∧ V.rk k ≤ V.rk i := by
  unfold ordS
  refine settle_wf O hi ?_
  cases q : c3S V g i with
  | none => exact ⟨List.nodup_nil, fun k hk => nomatch hk⟩
  | some xs => exact stS_ok O G hi i hi xs ((stS_ov O G hi).trans q)
theorem Gs.Ok.setSo {V : Vo} {g : Gs} (G : g.Ok V) {i : Nat} {l : List Nat} (h : l.Nodup ∧ ∀ k, k ∈ l → V.live k ∧ V.rk k ≤ V.rk i) : (g.setSo i l).Ok V :=
  ⟨G.cl, G.len, G.nd, G.dnd, G.dep, fun j hj => by
    show (if j = i then l else g.so j).Nodup ∧ ∀ k, k ∈ (if j = i then l else g.so j) → _
    split
    · rename_i e; subst e; exact h
    · exact G.so j hj⟩
theorem chgN_bd {V : Vo} : ∀ (n : Nat) (g : Gs) (i : Nat), (chgN V n g i).bs = g.bs ∧ (chgN V n g i).ds = g.ds
  | 0, g, _ => ⟨rfl, rfl⟩
  | n + 1, g, i => by
    have h : ∀ (l : List Nat) (g : Gs), (l.foldl (chgN V n) g).bs = g.bs ∧ (l.foldl (chgN V n) g).ds = g.ds := by
      intro l
      induction l with
      | nil => intro g; exact ⟨rfl, rfl⟩
      | cons a l ih =>
        intro g
        have h1 := ih (chgN V n g a)
        have h2 := chgN_bd (V := V) n g a
        exact ⟨h1.1.trans h2.1, h1.2.trans h2.2⟩
    exact h (g.ds i) (g.setSo i (ordS V g i))
theorem chgN_ok {V : Vo} (O : V.Ok) : ∀ (n : Nat) (g : Gs) (i : Nat), V.live i → g.Ok V → (chgN V n g i).Ok V
  | 0, g, i, hi, G => G
  | n + 1, g, i, hi, G => by
    have h : ∀ (l : List Nat) (g' : Gs), (∀ j, j ∈ l → V.live j) → g'.Ok V → (l.foldl (chgN V n) g').Ok V := by
      intro l
      induction l with
      | nil => intro g' _ G; exact G
      | cons a l ih =>
        intro g' hl G
        exact ih (chgN V n g' a) (fun j hj => hl j (.tail _ hj)) (chgN_ok O n g' a (hl a (.head _)) G)
    exact h (g.ds i) _ (fun j hj => (G.dep i hi j hj).1) (G.setSo (ordS_wf O G hi))
end Mine
end
section
open PySem PySem.W PyProof.Rows PySem.Calls
set_option Elab.async false
set_option genSizeOf false
set_option genInjectivity false
set_option maxRecDepth 100000
set_option linter.unusedVariables false
set_option linter.unusedSimpArgs false
set_option maxHeartbeats 2000000
namespace Mine
open PySem (Sem Str Value Heap Obj Shared)
noncomputable def Vo.all (V : Vo) : List Addr := (List.range 6).flatMap fun j => [V.dx j, V.dep j, V.imp j]
theorem Vo.mem_all {V : Vo} (O : V.Ok) {i : Nat} (hi : V.live i) {d : Addr} (h : d ∈ [V.dx i, V.dep i, V.imp i]) : d ∈ V.all :=
  List.mem_flatMap.mpr ⟨i, List.mem_range.mpr (O.six i hi), h⟩
structure ChS where
  m : Mp
  ρ : Wd
  kv : List (Int × Value)
structure ChT where
  m : Mp
  ρ : Wd
  g : Gs
section
variable {C : Cx} {a : Adr} {V : Vo} {E : Value → Shared → Prop} 
theorem Spx.setImp {ρ : Wd} {g : Gs} {i : Nat} (O : V.Ok) (S : Spx ρ a V g) (hi : V.live i) {kv : List (Int × Value)} (hz : kv.length ≤ 10) : Spx (upd ρ (V.imp i) (.idict kv)) a V g ∧ ExtD V.all ρ (upd ρ (V.imp i) (.idict kv)) := by
  refine Spx.el4 S hi fun h1 z m h2 hz' M es d1 d2 d3 kv0 k1 k2 => ?_
  have x : ExtD [V.imp i] ρ (upd ρ (V.imp i) (.idict kv)) := ExtB.ed (extB_upd _ _ _) k1 (.inr ⟨_, rfl⟩)
  have ap := S.apart O hi hi
  refine ⟨S.turn O hi (x.mono fun d hd => by simp at hd; simp [hd]) (fun j _ => ⟨rfl, rfl, rfl⟩) ⟨?_, ⟨z, m, ?_, hz', M.ext x rfl rfl⟩, ⟨es, ?_, d2, fun p hp => let ⟨t, ht⟩ := d3 p hp; ⟨t, x.tup ht⟩⟩, ⟨kv, upd_self .., hz⟩⟩, x.mono fun d hd => Vo.mem_all O hi (by simp at hd; simp [hd])⟩
  · exact x _ _ h1 (.inr ⟨by intro _ _ q; (cases q), by intro _ q; cases q⟩)
  · exact x _ _ h2 (.inl (notin1 ap.2))
  · exact x _ _ d1 (.inl (notin1 (O.apart i i hi hi)))
structure ChP (a : Adr) (V : Vo) (g : Gs) (i : Nat) (oc : Value) (xs : List Nat) (ρ6 : Wd) (k : Nat) (y : ChS) : Prop where
  f1 : y.m "self" = some (.ref (V.x i))
  f2 : y.m "originally_changed" = some oc
  f3 : y.m "implied" = some (.ref (V.imp i))
  f4 : Spx y.ρ a V (g.setSo i xs)
  f5 : ExtD V.all ρ6 y.ρ
  f6 : y.ρ (V.imp i) = some (.idict y.kv)
  f7 : y.kv.length ≤ k
  f8 : k ≤ 6
structure ChQ (a : Adr) (V : Vo) (g : Gs) (i n : Nat) (oc : Value) (xs : List Nat) (ρk : Wd) (k : Nat) (y : ChT) : Prop where
  f1 : y.m "originally_changed" = some oc
  f2 : Spx y.ρ a V y.g
  f3 : y.g.Ok V
  f4 : ExtD V.all ρk y.ρ
  f5 : y.g = ((g.ds i).take k).foldl (chgN V n) (g.setSo i xs)
theorem changed_ok (T : Text C a) (TR : TextR C a) (TO : TextO C a) (TS : TextS C a) (O : V.Ok) : ∀ (n : Nat) {i : Nat} {g : Gs} {ρ : Wd} {τ σ : Lc} {s : Shared} {A : Around} {R : Result → Shared → Prop} {l : List Env} {oc : Value},
    V.live i → 6 ≤ V.rk i + n → g.Ok V → Spx ρ a V g → St C ρ τ σ s → Rm A (55 + n) → A.handled = none → A.frames = some l → FrOk (σ ++ τ) l →
    (∀ ρ' s', ExtD V.all ρ ρ' → Spx ρ' a V (chgN V n g i) → St C ρ' τ σ s' → R (.ok (.ret .none)) s') →
    codeAny C.M A (.call (.ref a.changed) ⟨[.ref (V.x i), oc], []⟩) R s := by
  intro n
  induction n with
  | zero => intro i g ρ τ σ s A R l oc hi hn; exact absurd (O.rk6 i hi) (by omega)
  | succ n ih =>
    intro i g ρ τ σ s A R l oc hi hn G SX S r hh hA hF hOk
    refine Spx.el4 SX hi fun e1 z m e2 hz M es d1 d2 d3 kv0 k1 k2 => ?_
    refine enter S TS.fChg r.d (binds := [("self", .ref (V.x i)), ("originally_changed", oc)]) (fun _ _ _ _ _ _ => BindsTo.of_eq rfl) fun L cdv s' S => ?_
    refine pk3 (P1 := fun (m0 : Mp) => St C ρ (σ ++ τ) [(L, .fr "frame" m0)] s') (P2 := fun (m0 : Mp) => m0 "self" = some (.ref (V.x i))) (P3 := fun (m0 : Mp) => m0 "originally_changed" = some oc) _ (S) (rfl) (rfl) fun m0 S q1 q2 => ?_
    refine gen fun Q0 hQ0 => ?_
    refine xcons (xAsg (xAttr (ldL S rfl q1 (gOwn S e1 e2 (T.icOwn _ rfl) M.imp fun s' S => stL S rfl fun s' S => ?_))))
    refine pk4 (P1 := fun (m1 : Mp) => St C ρ (σ ++ τ) [(L, .fr "frame" m1)] s') (P2 := fun (m1 : Mp) => m1 "self" = some (.ref (V.x i))) (P3 := fun (m1 : Mp) => m1 "originally_changed" = some oc) (P4 := fun (m1 : Mp) => m1 "implied" = some (.ref (V.imp i))) _ (S) (q1) (q2) (rfl) fun m1 S q1 q2 q3 => ?_
    refine xcons (wpAny_Expr_any (xMeth (ldL S rfl q3 (gDClear (S.o k1) (cwB (hDClear (S.o k1) (Nat.le_trans k2 (by decide)) fun s' cg tt => ?_))))))
    have S := S.setO k1 cg tt
    obtain ⟨SX1, x1⟩ := SX.setImp (kv := []) O hi (by decide)
    have k1' : upd ρ (V.imp i) (.idict []) (V.imp i) = some (.idict []) := upd_self ..
    generalize upd ρ (V.imp i) (.idict []) = ρ1 at S SX1 x1 k1'
    refine Spx.el3 SX1 hi fun e1 z m e2 hz M es d1 d2 d3 => ?_
    refine xcons (xAsg (xMeth (ldL S rfl q1 (gMeth S e1 e2 (T.icMeth "_calculate_sro" _ rfl) (M.dom _ rfl) (cwK TS.fCalc.keep ⟨S.amb.x, callC ?_⟩)))))
    refine calc_ok T TR TO TS O G SX1 hi S ((r.deeper (n := 55 + n) _).le (by omega)) hh (Around.frames_deeper hA) (FrOk.own S rfl hF) fun la ρ2 s' x2 S => stL S rfl fun s' S => ?_
    refine pk5 (P1 := fun (m2 : Mp) => St C ρ2 (σ ++ τ) [(L, .fr "frame" m2), (la, .list (V.refs (ordS V g i)))] s') (P2 := fun (m2 : Mp) => m2 "self" = some (.ref (V.x i))) (P3 := fun (m2 : Mp) => m2 "originally_changed" = some oc) (P4 := fun (m2 : Mp) => m2 "implied" = some (.ref (V.imp i))) (P5 := fun (m2 : Mp) => m2 "ancestors" = some (.ref la)) _ (S) (q1) (q2) (q3) (rfl) fun m2 S q1 q2 q3 q4 => ?_
    have SX2 := SX1.ext x2
    have k2' := x2 _ _ k1'
    clear e1 e2 hz M d1 d2 d3
    refine Spx.el3 SX2 hi fun e1 z m e2 hz M es d1 d2 d3 => ?_
    have wf := ordS_wf O G hi
    generalize hxs : ordS V g i = xs at S wf
    have hx6 : xs.length ≤ 6 := nodup_lt 6 xs wf.1 fun k hk => O.six k (wf.2 k hk).1
    have hlen : (V.refs xs).length ≤ Big := by rw [Vo.refs, List.length_map]; exact Nat.le_trans hx6 (by decide)
    refine xcons (plainObj_wpAny_Assign_Attribute (Call_ (ldB S (T.nog _ rfl) rfl (cwT (ldL S rfl q4 (xTup S (S.at 1 rfl) hlen fun ts s' S => ldL S rfl q1 ?_))))))
    refine S.giveE 2 rfl fun ρ3 y1 ets S => ?_
    refine sAttr S (y1 _ _ e1) (y1 _ _ e2) (T.icSet _ rfl) (Nat.le_trans hz (by decide)) fun s' S => ?_
    obtain ⟨t0, hs0, _⟩ := M.sro
    obtain ⟨t1, hs1, _⟩ := M.iro
    rw [hs0, Option.isSome_some, if_pos rfl] at S
    have y2 := extB_upd ρ3 (V.dx i) (.nsd z (Mp.put m "sro" (.ref ts)))
    have f2 : upd ρ3 (V.dx i) (.nsd z (Mp.put m "sro" (.ref ts))) (V.dx i) = some (.nsd z (Mp.put m "sro" (.ref ts))) := upd_self ..
    have S : St C (upd ρ3 (V.dx i) (.nsd z (Mp.put m "sro" (.ref ts)))) (σ ++ τ) [(L, .fr "frame" m2), (la, .list (V.refs xs))] s' := S
    generalize upd ρ3 (V.dx i) (.nsd z (Mp.put m "sro" (.ref ts))) = ρ4 at S y2 f2
    have y2d : ExtD [V.dx i] ρ3 ρ4 := ExtB.ed y2 (y1 _ _ e2) (.inl ⟨_, _, rfl⟩)
    have insAll : ∀ k, V.live k → ρ4 (V.x k) = some (.ins a.ic (V.dx k)) := fun k hk => y2d _ _ (y1 _ _ (SX2 k hk).ins) (.inr ⟨by intro _ _ q; (cases q), by intro _ q; cases q⟩)
    refine xcons (plainObj_wpAny_Assign_Attribute (Call_ (ldB S (T.nog _ rfl) rfl (cwT ?_))))
    refine listComp_st (τ := σ ++ τ) (α := Unit) (E' := fun _ _ => False) (fun _ => ρ4) (fun _ => [(L, .fr "frame" m2), (la, .list (V.refs xs))])
      (fun q _ ys => ys = V.refs (xs.take q)) rfl (by rfl) rfl (fun _ _ _ f => f.elim) ?_
    refine ldL S rfl q4 (itList S (S.at 1 rfl) fun I s' S _ => ⟨I, _, V.refs xs, fun h => h.PlainList la (V.refs xs).toArray, (), rfl, Wk.list (by exact hh) I la (V.refs xs), hlen, S, rfl, ?_, ?_, ?_⟩)
    · rintro q _ ys τ' σ' s _ S
      exact (S.loc (la, .list (V.refs xs)) (List.mem_append_left _ (List.mem_append_right _ (.tail _ (.head _))))).1
    · rintro q _ v ys L2 D2 mm s hv hys hmv S
      obtain ⟨k, hk, rfl⟩ : ∃ j, xs[q]? = some j ∧ v = .ref (V.x j) := by
        rw [Vo.refs, List.getElem?_map, Option.map_eq_some_iff] at hv
        obtain ⟨x, e, w⟩ := hv; exact ⟨x, e, w.symm⟩
      have hlk := (wf.2 k (List.mem_of_getElem? hk)).1
      have htk : xs.take (q + 1) = xs.take q ++ [k] := by rw [List.take_add_one, hk]; rfl
      refine tests_one (isTrue_plain (Call_ (ldB S (T.nog _ rfl) rfl (cwB (ldL S rfl hmv (ldG S (T.glob _ _ rfl) (isIC TS.icIs S (insAll k hlk) (wpAny_truthy_bool ?_))))))))
      rw [if_pos rfl]
      refine ldL S rfl hmv ⟨(), ?_, S⟩
      rw [hys, htk]; simp [Vo.refs]
    rintro _ ys D s hys S
    have hrl : (V.refs xs).length = xs.length := by rw [Vo.refs, List.length_map]
    have hys : ys = V.refs xs := by rw [hys, hrl, List.take_length]
    subst hys
    refine xTup S (S.at 2 rfl) hlen fun ti s' S => ldL S rfl q1 ?_
    refine S.giveE 3 rfl fun ρ5 y3 eti S => ?_
    refine sAttr S (y3 _ _ (insAll i hi)) (y3 _ _ f2) (T.icSet _ rfl) (Nat.le_trans hz (by decide)) fun s' S => ?_
    have hs1' : Mp.put m "sro" (.ref ts) "iro" = some (.ref t1) := hs1
    rw [hs1', Option.isSome_some, if_pos rfl] at S
    have y4 := extB_upd ρ5 (V.dx i) (.nsd z (Mp.put (Mp.put m "sro" (.ref ts)) "iro" (.ref ti)))
    have f3 : upd ρ5 (V.dx i) (.nsd z (Mp.put (Mp.put m "sro" (.ref ts)) "iro" (.ref ti))) (V.dx i) = some (.nsd z (Mp.put (Mp.put m "sro" (.ref ts)) "iro" (.ref ti))) := upd_self ..
    have S : St C (upd ρ5 (V.dx i) (.nsd z (Mp.put (Mp.put m "sro" (.ref ts)) "iro" (.ref ti)))) (σ ++ τ) [(L, .fr "frame" m2), (la, .list (V.refs xs))] s' := S.sub (List.Sublist.append (List.Sublist.cons_cons _ (List.Sublist.cons_cons _ (List.nil_sublist _))) (.refl _))
    generalize upd ρ5 (V.dx i) (.nsd z (Mp.put (Mp.put m "sro" (.ref ts)) "iro" (.ref ti))) = ρ6 at S y4 f3
    have y4d : ExtD [V.dx i] ρ5 ρ6 := ExtB.ed y4 (y3 _ _ f2) (.inl ⟨_, _, rfl⟩)
    have xd : ExtD [V.dx i] ρ2 ρ6 := (((Ext.ed y1).trans y2d).trans (Ext.ed y3)).trans y4d
    have ap := SX2.apart O hi hi
    have SX6 : Spx ρ6 a V (g.setSo i xs) := SX2.turn (g' := g.setSo i xs) O hi (xd.mono fun d hd => by simp at hd; simp [hd]) (fun j hj => ⟨rfl, rfl, if_neg hj⟩) (by
      have es' : (g.setSo i xs).so i = xs := if_pos rfl
      refine ⟨xd _ _ e1 (.inr ⟨by intro _ _ q; (cases q), by intro _ q; cases q⟩), ⟨z, _, f3, hz, ⟨(M.dom.put rfl).put rfl, M.key, M.root, M.dep, M.imp, ?_, ⟨ts, rfl, ?_⟩, ⟨ti, rfl, ?_⟩⟩⟩, ⟨es, xd _ _ d1 (.inl (notin1 ap.1.symm)), d2, fun p hp => let ⟨t, ht⟩ := d3 p hp; ⟨t, xd.tup ht⟩⟩, ⟨[], xd _ _ k2' (.inl (notin1 ap.2.symm)), by decide⟩⟩
      · obtain ⟨tb, b1, b2⟩ := M.bs
        exact ⟨tb, b1, xd.tup b2⟩
      · rw [es']; exact y4d.tup (y3 _ _ (y2d.tup ets))
      · rw [es']; exact y4d.tup eti)
    have k6 : ρ6 (V.imp i) = some (.idict []) := xd _ _ k2' (.inl (notin1 ap.2.symm))
    have X6 : ExtD V.all ρ ρ6 := (x1.trans (Ext.ed x2)).trans (xd.mono fun d hd => Vo.mem_all O hi (by simp at hd; simp [hd]))
    have G6 : (g.setSo i xs).Ok V := G.setSo wf
    clear e1 e2 M d1 d2 d3 f2 f3 insAll
    refine xcons (xFor (ldL S rfl q4 (itList S (S.at 1 rfl) fun I s' S _ => ?_)))
    refine forLoop_t (α := ChS) (τ := σ ++ τ) (E' := fun _ _ => False) (Wk.list (by exact hh) I la (V.refs xs)) (fun y => y.ρ) (fun y => [(L, .fr "frame" y.m), (la, .list (V.refs xs))])
      (ChP a V g i oc xs ρ6) noE ?_ ⟨m2, ρ6, []⟩ S ⟨q1, q2, q3, SX6, fun _ _ e _ => e, k6, Nat.le_refl _, by decide⟩ ?_ ?_
    · intro k y _ s P S; exact S.at 1 rfl
    · rintro k Qb Eb hQb hEb hRb ⟨mk, ρk, kk⟩ v s hv ⟨p1, p2, p3, p4, p5, p6, p7, p8⟩ S
      dsimp only at p1 p2 p3 p4 p5 p6 p7 p8 S
      obtain ⟨j, hj, rfl⟩ : ∃ j, xs[k]? = some j ∧ v = .ref (V.x j) := by
        rw [Vo.refs, List.getElem?_map, Option.map_eq_some_iff] at hv
        obtain ⟨x, e, w⟩ := hv; exact ⟨x, e, w.symm⟩
      have hk6 : k < 6 := Nat.lt_of_lt_of_le (List.getElem?_eq_some_iff.mp hj).1 hx6
      have hlj := (wf.2 j (List.mem_of_getElem? hj)).1
      refine Spx.el1 p4 hlj fun j1 zj mj j2 _ Mj => ?_
      obtain ⟨tj, j3⟩ := Mj.key
      refine wpAny_of_eq (a := ()) rfl (wpAny_assign_Name (stL S rfl fun s' S => ?_))
      refine pk5 (P1 := fun (m5 : Mp) => St C ρk ((I, litO la (k + 1)) :: (σ ++ τ)) [(L, .fr "frame" m5), (la, .list (V.refs xs))] s') (P2 := fun (m5 : Mp) => m5 "self" = some (.ref (V.x i))) (P3 := fun (m5 : Mp) => m5 "originally_changed" = some oc) (P4 := fun (m5 : Mp) => m5 "implied" = some (.ref (V.imp i))) (P5 := fun (m5 : Mp) => m5 "ancestor" = some (.ref (V.x j))) _ (S) (p1) (p2) (p3) (rfl) fun m5 S p1 p2 p3 p9 => ?_
      refine xcons (wpAny_Assign_Subscript (eTup ⟨_, _, _, S, Nat.zero_le _, fun tt s' S => ldL S rfl p3 (xAttr (ldL S rfl p9 (gOwn S j1 j2 (T.icOwn _ rfl) j3 fun s' S => hDSet (S.o p6) (by show kk.length ≤ 100000; omega) fun s' cg t => ?_)))⟩))
      have S := S.setO p6 cg t
      have hl2 := stored_length_le kk (V.key j) (Value.ref tt)
      obtain ⟨SXn, xn⟩ := p4.setImp (kv := stored kk (V.key j) (Value.ref tt)) O hi (by omega)
      refine wpAny_execs_nil (hQb ⟨m5, _, _⟩ _ ⟨p1, p2, p3, SXn, p5.trans xn, upd_self .., by show (stored kk (V.key j) (Value.ref tt)).length ≤ k + 1; omega, by (with_reducible exact Nat.succ_le_of_lt ‹_›)⟩ (S.sub (List.Sublist.append (List.Sublist.cons_cons _ (List.Sublist.cons_cons _ (List.nil_sublist _))) (.refl _))))
    rintro ⟨mk, ρk, kk⟩ s ⟨p1, p2, p3, p4, p5, p6, p7, p8⟩ S
    dsimp only at p1 p2 p3 p4 p5 p6 p7 p8 S
    refine wpAny_execs_nil ?_
    refine Spx.el3 p4 hi fun e1 z m e2 hz M es d1 d2 d3 => ?_
    have d2 : es.map (·.1) = g.ds i := d2
    have hes : (depK V es).length ≤ 6 := by
      have h1 := nodup_lt 6 (es.map (·.1)) (by rw [d2]; exact G.dnd i hi) fun x hx => by
        obtain ⟨p, hp, rfl⟩ := List.mem_map.mp hx
        exact O.six _ (G.dep i hi p.1 (by rw [← d2]; exact List.mem_map_of_mem (f := (·.1)) hp)).1
      unfold depK
      rw [List.length_map] at h1 ⊢
      exact h1
    refine xcons (xFor (Call_ (ldB S (T.nog _ rfl) rfl (cwT (xMeth (xAttr (ldL S rfl p1 (gOwn S e1 e2 (T.icOwn _ rfl) M.dep fun s' S => gDValues (S.o d1) (cwB (bDValues S (S.o d1) fun rv s' S => bTupValues S (by exact hh) (S.at 2 rfl) (S.o d1) (Nat.le_trans hes (by decide)) fun t s' S => ?_))))))))))
    have ev : (depK V es).map (·.2) = es.map fun (p : Nat × Addr) => Value.ref p.2 := by unfold depK; rw [List.map_map]; rfl
    rw [ev] at S
    have S : St C ρk (σ ++ τ) [(L, .fr "frame" mk), (t, .tup (es.map fun (p : Nat × Addr) => Value.ref p.2))] s' := S.sub (List.Sublist.append (List.Sublist.cons_cons _ (List.Sublist.cons _ (List.Sublist.cons _ (.refl _)))) (.refl _))
    refine itTup S (S.at 1 rfl) fun I s' S _ => ?_
    refine forLoop_t (α := ChT) (τ := σ ++ τ) (E' := fun _ _ => False) (Wk.tup (by exact hh) I t (es.map fun (p : Nat × Addr) => Value.ref p.2)) (fun y => y.ρ) (fun y => [(L, .fr "frame" y.m), (t, .tup (es.map fun (p : Nat × Addr) => Value.ref p.2))])
      (ChQ a V g i n oc xs ρk) noE ?_ ⟨mk, ρk, g.setSo i xs⟩ S ⟨p2, p4, G6, fun _ _ e _ => e, rfl⟩ ?_ ?_
    · intro k y _ s P S; exact S.at 1 rfl
    · rintro k Qb Eb hQb hEb hRb ⟨mj, ρj, gj⟩ v s hv ⟨u1, u2, u3, u4, u5⟩ S
      dsimp only at u1 u2 u3 u4 u5 S
      obtain ⟨⟨j, pj⟩, hj, rfl⟩ : ∃ p, es[k]? = some p ∧ v = .ref p.2 := by
        rw [List.getElem?_map, Option.map_eq_some_iff] at hv
        obtain ⟨x, e, w⟩ := hv; exact ⟨x, e, w.symm⟩
      obtain ⟨tj, ht⟩ := d3 (j, pj) (List.mem_of_getElem? hj)
      have hjd : (g.ds i)[k]? = some j := by rw [← d2, List.getElem?_map, hj]; rfl
      have hdj := G.dep i hi j (List.mem_of_getElem? hjd)
      refine ownGoT (S.ta 0 rfl) (asgTup2 S rfl (S.o (u4.tup ht)) hh fun s' S => ?_)
      refine pk3 (P1 := fun (m5 : Mp) => St C ρj ((I, titO t (k + 1)) :: (σ ++ τ)) [(L, .fr "frame" m5), (t, .tup (es.map fun (p : Nat × Addr) => Value.ref p.2))] s') (P2 := fun (m5 : Mp) => m5 "originally_changed" = some oc) (P3 := fun (m5 : Mp) => m5 "dependent" = some (.ref (V.x j))) ((mj.put "dependent" (.ref (V.x j))).put "_count" (.int 1 tj)) (S) (u1) (rfl) fun m5 S w1 w2 => ?_
      refine Spx.el1 u2 hdj.1 fun j1 zj mj' j2 _ Mj => ?_
      refine xcons (wpAny_Expr_any (xMeth (ldL S rfl w2 (gMeth S j1 j2 (T.icMeth "changed" _ rfl) (Mj.dom _ rfl) (cwK TS.fChg.keep (ldL S rfl w1 ⟨S.amb.x, callC ?_⟩))))))
      refine ih hdj.1 (by omega) u3 u2 S ((r.deeper (n := 55 + n) _).le (by (with_reducible exact Nat.le_refl _))) hh (Around.frames_deeper hA) (FrOk.own S rfl (hF.mono fun p hp => .tail _ hp)) fun ρ' s' x' SX' S' => ?_
      refine wpAny_execs_nil (hQb ⟨m5, ρ', chgN V n gj j⟩ _ ⟨w1, SX', chgN_ok O n gj j hdj.1 u3, u4.trans x', ?_⟩ S')
      show chgN V n gj j = ((g.ds i).take (k + 1)).foldl (chgN V n) (g.setSo i xs)
      rw [List.take_add_one, hjd, List.foldl_append, ← u5]; rfl
    · rintro ⟨mj, ρj, gj⟩ s ⟨u1, u2, u3, u4, u5⟩ S
      dsimp only at u1 u2 u3 u4 u5 S
      refine wpAny_execs_nil (wpAny_execs_nil (hQ0 _ _ (hOk ρj s ((X6.trans p5).trans u4) ?_ S.forget.back0)))
      have : gj = chgN V (n + 1) g i := by
        rw [u5, List.length_map]
        have : es.length = (g.ds i).length := by rw [← d2, List.length_map]
        rw [this, List.take_length]
        show _ = (g.ds i).foldl (chgN V n) (g.setSo i (ordS V g i))
        rw [hxs]
      rw [← this]; exact u2
end
end Mine
end
section
open PySem
set_option Elab.async false
set_option linter.unusedVariables false
namespace Mine
open PySem (Sem Str Value Heap Obj Shared)
noncomputable def Settled (V : Vo) (g : Gs) : Prop := ∀ k, V.live k → g.so k = ordS V g k
noncomputable def Gs.Con (V : Vo) (g : Gs) : Prop := ∀ b j, V.live b → V.live j → (j ∈ g.ds b ↔ b ∈ g.bs j)
theorem walkN_congr {bs bs' : Nat → List Nat} : ∀ (n k : Nat), (∀ j, j ∈ walkN bs n k → bs j = bs' j) → walkN bs n k = walkN bs' n k
  | 0, _, _ => rfl
  | n + 1, k, h => by
    show k :: (bs k).flatMap (walkN bs n) = k :: (bs' k).flatMap (walkN bs' n)
    rw [← h k (.head _), flatMap_congr' fun j hj => walkN_congr n j fun q hq => h q (.tail _ (List.mem_flatMap.mpr ⟨j, hj, hq⟩))]
theorem ordS_congr {V : Vo} {g g' : Gs} {k : Nat} (h1 : g.bs k = g'.bs k) (h2 : ∀ j, j ∈ g.bs k → g.so j = g'.so j) (h3 : (V.wo g).walk k = (V.wo g').walk k) : ordS V g k = ordS V g' k := by
  have e : rowsO (fun j => some (g.so j)) (g.bs k) = rowsO (fun j => some (g'.so j)) (g'.bs k) := by
    rw [← h1]; exact rowsO_congr fun j hj => by rw [h2 j hj]
  have : c3S V g k = c3S V g' k := by
    unfold c3S c3v vOf
    show (match rowsO (fun j => some (g.so j)) (g.bs k) with | none => none | some rows => if (g.bs k).length = 1 then some (k :: rows.headD []) else match mergeC ([[k]] ++ rows ++ [g.bs k]) with | some r => some r | none => if false = true then none else some (keepLast ((V.wo g).walk k))) =
      (match rowsO (fun j => some (g'.so j)) (g'.bs k) with | none => none | some rows => if (g'.bs k).length = 1 then some (k :: rows.headD []) else match mergeC ([[k]] ++ rows ++ [g'.bs k]) with | some r => some r | none => if false = true then none else some (keepLast ((V.wo g').walk k)))
    rw [e, h1, h3]
  unfold ordS
  rw [this]
theorem walk_pred {V : Vo} {g : Gs} (O : V.Ok) (G : g.Ok V) (Cn : g.Con V) {i : Nat} (hi : V.live i) : ∀ (n k : Nat), V.rk k < n → V.live k → i ∈ (V.wo g).walk k → k ≠ i → ∃ j, j ∈ g.ds i ∧ j ∈ (V.wo g).walk k
  | n + 1, k, hr, hk, h, hn => by
    have W := G.wo O
    rw [walk_eq W hk] at h
    rcases List.mem_cons.mp h with h | h
    · exact absurd h.symm hn
    · obtain ⟨b, hb, h⟩ := List.mem_flatMap.mp h
      have c := G.cl k hk b hb
      by_cases q : b = i
      · subst q
        exact ⟨k, (Cn b k hi hk).mpr hb, by rw [walk_eq W hk]; exact .head _⟩
      · obtain ⟨j, h1, h2⟩ := walk_pred O G Cn hi n b (by omega) c.1 h q
        exact ⟨j, h1, by rw [walk_eq W hk]; exact .tail _ (List.mem_flatMap.mpr ⟨b, hb, h2⟩)⟩
theorem wo_bs {V : Vo} {g g' : Gs} (h : g'.bs = g.bs) : V.wo g' = V.wo g := by unfold Vo.wo; rw [h]
theorem chg_good {V : Vo} (O : V.Ok) : ∀ (n : Nat) (g : Gs) (i : Nat), V.live i → 6 ≤ V.rk i + n → g.Ok V → g.Con V → ∀ k, V.live k → (g.so k = ordS V g k ∨ i ∈ (V.wo g).walk k) →
    (chgN V n g i).so k = ordS V (chgN V n g i) k
  | 0, g, i, hi, hn, _, _, _, _, _ => absurd (O.rk6 i hi) (by omega)
  | n + 1, g, i, hi, hn, G, Cn, k, hk, h => by
    have W := G.wo O
    have wf := ordS_wf O G hi
    have G1 : (g.setSo i (ordS V g i)).Ok V := G.setSo wf
    have fold : ∀ (l : List Nat) (g' : Gs), (∀ j, j ∈ l → V.live j ∧ 6 ≤ V.rk j + n) → g'.Ok V → g'.Con V → (g'.so k = ordS V g' k ∨ ∃ j, j ∈ l ∧ j ∈ (V.wo g').walk k) → (l.foldl (chgN V n) g').so k = ordS V (l.foldl (chgN V n) g') k := by
      intro l
      induction l with
      | nil => intro g' _ _ _ h; exact h.elim id fun ⟨_, h, _⟩ => nomatch h
      | cons c l ih =>
        intro g' hl G' C' h
        have hc := hl c (.head _)
        have bd := chgN_bd (V := V) n g' c
        refine ih (chgN V n g' c) (fun j hj => hl j (.tail _ hj)) (chgN_ok O n g' c hc.1 G') (fun b j hb hj => by rw [bd.1, bd.2]; exact C' b j hb hj) ?_
        rcases h with h | ⟨j, hj, hw⟩
        · exact .inl (chg_good O n g' c hc.1 hc.2 G' C' k hk (.inl h))
        · rcases List.mem_cons.mp hj with rfl | hj
          · exact .inl (chg_good O n g' j hc.1 hc.2 G' C' k hk (.inr hw))
          · exact .inr ⟨j, hj, by rw [wo_bs bd.1]; exact hw⟩
    refine fold (g.ds i) _ (fun j hj => ?_) G1 Cn ?_
    · have := G.dep i hi j hj
      exact ⟨this.1, by omega⟩
    have hsame : i ∉ g.bs k → ordS V (g.setSo i (ordS V g i)) k = ordS V g k := fun hb => ordS_congr rfl (fun j hj => if_neg fun q => hb (by rw [← q]; exact hj)) rfl
    by_cases hki : k = i
    · left
      subst hki
      have hb : k ∉ g.bs k := fun q => Nat.lt_irrefl _ (G.cl k hk k q).2
      rw [hsame hb]; exact if_pos rfl
    · by_cases hb : i ∈ g.bs k
      · exact .inr ⟨k, (Cn i k hi hk).mpr hb, by rw [walk_eq (G1.wo O) hk]; exact .head _⟩
      · rcases h with h | h
        · left
          rw [hsame hb]
          exact (if_neg hki).trans h
        · exact .inr (walk_pred O G Cn hi _ k (Nat.lt_succ_self _) hk h hki)
theorem rebase_settled {V : Vo} {g g3 : Gs} (O : V.Ok) {i : Nat} {bl : List Nat} (hi : V.live i) (hset : ∀ k, V.live k → k ≠ i → g.so k = ordS V g k) (G3 : g3.Ok V) (C3 : g3.Con V) (hb : g3.bs = fun j => if j = i then bl else g.bs j) (hs : g3.so = g.so) :
    Settled V (chgN V 6 g3 i) := fun k hk => by
  refine chg_good O 6 g3 i hi (by (with_reducible exact Nat.le_add_left _ _)) G3 C3 k hk ?_
  by_cases hw : i ∈ (V.wo g3).walk k
  · exact .inr hw
  · left
    have hki : k ≠ i := fun q => hw (by rw [q, walk_eq (G3.wo O) hi]; exact .head _)
    have hbk : g3.bs k = g.bs k := by rw [hb]; exact if_neg hki
    have : ordS V g3 k = ordS V g k := ordS_congr hbk (fun j _ => by rw [hs]) (walkN_congr _ k fun j hj => by
      show g3.bs j = g.bs j
      rw [hb]; show (if j = i then bl else g.bs j) = g.bs j; exact if_neg fun (q : j = i) => hw (by rw [← q]; exact hj))
    rw [this, hs]
    exact hset k hk hki
end Mine
end
section
open PySem PySem.W PyProof.Rows PySem.Calls
set_option Elab.async false
set_option maxRecDepth 100000
set_option linter.unusedVariables false
set_option linter.unusedSimpArgs false
set_option maxHeartbeats 2000000
namespace Mine
open PySem (Sem Str Value Heap Obj Shared)
section
variable {C : Cx} {a : Adr} {V : Vo} {ρ : Wd} {τ σ : Lc} {s : Shared} {A : Around} {E : Value → Shared → Prop} {R : Result → Shared → Prop} {g : Gs} {i b : Nat}
theorem Gs.Ok.delD (G : g.Ok V) : (g.delD b i).Ok V :=
  ⟨G.cl, G.len, G.nd, fun j hj => by
    show (if j = b then (g.ds j).filter (· ≠ i) else g.ds j).Nodup
    split
    · exact (G.dnd j hj).filter _
    · exact G.dnd j hj, fun j hj k hk => by
    have hk : k ∈ (if j = b then (g.ds j).filter (· ≠ i) else g.ds j) := hk
    split at hk
    · exact G.dep j hj k (List.mem_filter.mp hk).1
    · exact G.dep j hj k hk, G.so⟩
theorem Gs.Ok.addD (G : g.Ok V) (hi : V.live i) (hr : V.rk b < V.rk i) (hn : i ∉ g.ds b) : (g.addD b i).Ok V :=
  ⟨G.cl, G.len, G.nd, fun j hj => by
    show (if j = b then g.ds j ++ [i] else g.ds j).Nodup
    split
    · rename_i e; subst e
      exact List.nodup_append.mpr ⟨G.dnd j hj, by simp, fun a ha c hc e => by simp at hc; subst hc; subst e; exact hn ha⟩
    · exact G.dnd j hj, fun j hj k hk => by
    have hk2 : k ∈ (if j = b then g.ds j ++ [i] else g.ds j) := hk
    split at hk2
    · rename_i e; subst e
      rcases List.mem_append.mp hk2 with hk2 | hk2
      · exact G.dep j hj k hk2
      · simp at hk2; subst hk2; exact ⟨hi, hr⟩
    · exact G.dep j hj k hk2, G.so⟩
theorem mem_delD {c j : Nat} : j ∈ (g.delD b i).ds c ↔ j ∈ g.ds c ∧ ¬(j = i ∧ c = b) := by
  show j ∈ (if c = b then (g.ds c).filter (· ≠ i) else g.ds c) ↔ _
  split
  · rename_i e; subst e; simp
  · rename_i e; simp [e]
theorem mem_addD {c j : Nat} : j ∈ (g.addD b i).ds c ↔ j ∈ g.ds c ∨ (j = i ∧ c = b) := by
  show j ∈ (if c = b then g.ds c ++ [i] else g.ds c) ↔ _
  split
  · rename_i e; subst e; simp
  · rename_i e; simp [e]
theorem ExtD.refl (D : List Addr) (ρ : Wd) : ExtD D ρ ρ := fun _ _ e _ => e
structure SbP (a : Adr) (V : Vo) (ρ : Wd) (g : Gs) (i : Nat) (t : Addr) (k : Nat) (y : ChT) : Prop where
  p1 : y.m "self" = some (.ref (V.x i))
  p2 : y.m "bases" = some (.ref t)
  p3 : Spx y.ρ a V y.g
  p4 : y.g.Ok V
  p5 : ExtD V.all ρ y.ρ
  p6 : y.g.bs = g.bs
  p7 : y.g.so = g.so
  p8 : ∀ c j, j ∈ y.g.ds c ↔ j ∈ g.ds c ∧ ¬(j = i ∧ c ∈ (g.bs i).take k)
structure SbU (a : Adr) (V : Vo) (ρ : Wd) (g : Gs) (i : Nat) (bl : List Nat) (k : Nat) (y : ChT) : Prop where
  u1 : y.m "self" = some (.ref (V.x i))
  u2 : Spx y.ρ a V y.g
  u3 : y.g.Ok V
  u4 : ExtD V.all ρ y.ρ
  u5 : y.g.bs = g.bs
  u6 : y.g.so = g.so
  u7 : ∀ c j, j ∈ y.g.ds c ↔ j ∈ g.ds c ∨ (j = i ∧ c ∈ bl.take k)
theorem setBases_ok (T : Text C a) (TR : TextR C a) (TO : TextO C a) (TS : TextS C a) (O : V.Ok) {bl : List Nat} {t : Addr} {l : List Env} (hi : V.live i) (G : g.Ok V) (Cn : g.Con V) (hset : ∀ k, V.live k → k ≠ i → g.so k = ordS V g k)
    (hbl : ∀ j, j ∈ bl → V.live j ∧ V.rk j < V.rk i) (hnd : bl.Nodup) (hlen : bl.length ≤ 5) (SX : Spx ρ a V g) (ht : ρ t = some (.tup (V.refs bl))) (S : St C ρ τ σ s) (r : Rm A 62) (hh : A.handled = none) (hA : A.frames = some l) (hF : FrOk (σ ++ τ) l)
    (hOk : ∀ ρ' s' g', ExtD V.all ρ ρ' → Spx ρ' a V g' → g'.Ok V → g'.Con V → g'.bs = (fun j => if j = i then bl else g.bs j) → Settled V g' → St C ρ' τ σ s' → R (.ok (.ret .none)) s') :
    codeAny C.M A (.call (.ref a.setBases) ⟨[.ref (V.x i), .ref t], []⟩) R s := by
  refine Spx.el1 SX hi fun e1 z m e2 hz M => ?_
  obtain ⟨tb, b1, b2⟩ := M.bs
  refine enter S TS.fSetB r.d (binds := [("self", .ref (V.x i)), ("bases", .ref t)]) (fun _ _ _ _ _ _ => BindsTo.of_eq rfl) fun L cdv s' S => ?_
  refine pk3 (P1 := fun (m0 : Mp) => St C ρ (σ ++ τ) [(L, .fr "frame" m0)] s') (P2 := fun (m0 : Mp) => m0 "self" = some (.ref (V.x i))) (P3 := fun (m0 : Mp) => m0 "bases" = some (.ref t)) _ (S) (rfl) (rfl) fun m0 S q1 q2 => ?_
  refine xcons (xFor (xAttr (ldL S rfl q1 (gOwn S e1 e2 (T.icOwn _ rfl) b1 fun s' S => itTup S (S.o b2) fun I s' S _ => ?_))))
  refine forLoop_t (α := ChT) (τ := σ ++ τ) (E' := fun _ _ => False) (Wk.tup (by exact hh) I tb (V.refs (g.bs i))) (fun y => y.ρ) (fun y => [(L, .fr "frame" y.m)])
    (SbP a V ρ g i t) noE ?_ ⟨m0, ρ, g⟩ S ⟨q1, q2, SX, G, .refl _ _, rfl, rfl, fun c j => by simp⟩ ?_ ?_
  · intro k y _ s P S; exact S.o (P.p5.tup b2)
  · rintro k Qb Eb hQb hEb hRb ⟨mk, ρk, gk⟩ v s hv ⟨p1, p2, p3, p4, p5, p6, p7, p8⟩ S
    dsimp only at p1 p2 p3 p4 p5 p6 p7 p8 S
    obtain ⟨c, hc, rfl⟩ : ∃ j, (g.bs i)[k]? = some j ∧ v = .ref (V.x j) := by
      rw [Vo.refs, List.getElem?_map, Option.map_eq_some_iff] at hv
      obtain ⟨x, e, w⟩ := hv; exact ⟨x, e, w.symm⟩
    have hcm := List.mem_of_getElem? hc
    have hlc := G.cl i hi c hcm
    have hin : i ∈ gk.ds c := by
      rw [p8]
      refine ⟨(Cn c i hlc.1 hi).mpr hcm, fun q => ?_⟩
      obtain ⟨k', hk'⟩ := List.mem_iff_getElem?.mp q.2
      have hlt := (List.getElem?_eq_some_iff.mp hk').1
      rw [List.length_take] at hlt
      rw [List.getElem?_take_of_lt (by omega)] at hk'
      have := (List.getElem?_inj (by omega) (G.nd i hi)).mp (hk'.trans hc.symm)
      omega
    refine wpAny_of_eq (a := ()) rfl (wpAny_assign_Name (stL S rfl fun s' S => ?_))
    refine pk4 (P1 := fun (m5 : Mp) => St C ρk ((I, titO tb (k + 1)) :: (σ ++ τ)) [(L, .fr "frame" m5)] s') (P2 := fun (m5 : Mp) => m5 "self" = some (.ref (V.x i))) (P3 := fun (m5 : Mp) => m5 "bases" = some (.ref t)) (P4 := fun (m5 : Mp) => m5 "b" = some (.ref (V.x c))) _ (S) (p1) (p2) (rfl) fun m5 S p1 p2 p9 => ?_
    refine Spx.el1 p3 hlc.1 fun j1 zj mj j2 _ Mj => ?_
    refine xcons (wpAny_Expr_any (xMeth (ldL S rfl p9 (gMeth S j1 j2 (T.icMeth "unsubscribe" _ rfl) (Mj.dom _ rfl) (cwK TS.fUnsub.keep (ldL S rfl p1 ⟨S.amb.x, callC ?_⟩))))))
    refine unsubscribe_ok T TS O p4 p3 hlc.1 hi hin S ((r.deeper (n := 61) _).le (by decide)) fun ρ' s' x' SX' S' => ?_
    refine wpAny_execs_nil (hQb ⟨m5, ρ', gk.delD c i⟩ _ ⟨p1, p2, SX', p4.delD, p5.trans (x'.mono fun d hd => Vo.mem_all O hlc.1 (by simp at hd; simp [hd])), p6, p7, fun c' j => ?_⟩ S')
    show j ∈ (gk.delD c i).ds c' ↔ _
    rw [mem_delD, p8, List.take_add_one, hc]
    simp only [Option.toList_some, List.mem_append, List.mem_singleton]
    constructor
    · rintro ⟨⟨h1, h2⟩, h3⟩
      exact ⟨h1, fun ⟨q1, q2⟩ => q2.elim (fun q => h2 ⟨q1, q⟩) fun q => h3 ⟨q1, q⟩⟩
    · rintro ⟨h1, h2⟩
      exact ⟨⟨h1, fun ⟨q1, q2⟩ => h2 ⟨q1, .inl q2⟩⟩, fun ⟨q1, q2⟩ => h2 ⟨q1, .inr q2⟩⟩
  rintro ⟨m1, ρ1, g1⟩ s ⟨p1, p2, p3, p4, p5, p6, p7, p8⟩ S
  dsimp only at p1 p2 p3 p4 p5 p6 p7 p8 S
  have p8 : ∀ c j, V.live c → (j ∈ g1.ds c ↔ j ∈ g.ds c ∧ j ≠ i) := fun c j hc => by
    rw [p8, Vo.refs, List.length_map, List.take_length]
    exact ⟨fun ⟨h1, h2⟩ => ⟨h1, fun q => h2 ⟨q, by rw [q] at h1; exact (Cn c i hc hi).mp h1⟩⟩, fun ⟨h1, h2⟩ => ⟨h1, fun q => h2 q.1⟩⟩
  refine wpAny_execs_nil ?_
  refine Spx.el4 p3 hi fun f1 z1 mm f2 hz1 M1 es d1 d2 d3 kv k1 k2 => ?_
  obtain ⟨tb1, c1, c2⟩ := M1.bs
  refine xcons (plainObj_wpAny_Assign_Attribute (ldL S rfl p2 (ldL S rfl p1 (sAttr S f1 f2 (T.icSet _ rfl) (Nat.le_trans hz1 (by decide)) fun s' S => ?_))))
  rw [c1, Option.isSome_some, if_pos rfl] at S
  have S : St C (upd ρ1 (V.dx i) (.nsd z1 (Mp.put mm "bases" (.ref t)))) (σ ++ τ) [(L, .fr "frame" m1)] s' := S
  have xd : ExtD [V.dx i] ρ1 (upd ρ1 (V.dx i) (.nsd z1 (Mp.put mm "bases" (.ref t)))) := ExtB.ed (extB_upd _ _ _) f2 (.inl ⟨_, _, rfl⟩)
  have f3 : upd ρ1 (V.dx i) (.nsd z1 (Mp.put mm "bases" (.ref t))) (V.dx i) = some (.nsd z1 (Mp.put mm "bases" (.ref t))) := upd_self ..
  generalize upd ρ1 (V.dx i) (.nsd z1 (Mp.put mm "bases" (.ref t))) = ρ2 at S xd f3
  have ap := p3.apart O hi hi
  refine pk1 (P1 := fun (g2 : Gs) => g2 = { g1 with bs := fun j => if j = i then bl else g1.bs j }) _ (rfl) fun g2 hg2 => ?_
  have G2 : g2.Ok V := by
    subst hg2
    refine ⟨fun j hj k hk => ?_, fun j hj => ?_, fun j hj => ?_, p4.dnd, p4.dep, p4.so⟩
    · have hk2 : k ∈ (if j = i then bl else g1.bs j) := hk
      split at hk2
      · rename_i e; subst e; exact hbl k hk2
      · exact p4.cl j hj k hk2
    · show (if j = i then bl else g1.bs j).length ≤ 5
      split
      · exact hlen
      · exact p4.len j hj
    · show (if j = i then bl else g1.bs j).Nodup
      split
      · exact hnd
      · exact p4.nd j hj
  have SX2 : Spx ρ2 a V g2 := by
    subst hg2
    refine p3.turn O hi (xd.mono fun d hd => by simp at hd; simp [hd]) (fun j hj => ⟨if_neg hj, rfl, rfl⟩) ?_
    refine ⟨xd _ _ f1 (.inr ⟨by intro _ _ q; (cases q), by intro _ q; cases q⟩), ⟨z1, _, f3, hz1, ⟨M1.dom.put rfl, M1.key, M1.root, M1.dep, M1.imp, ⟨t, rfl, ?_⟩, ?_, ?_⟩⟩, ⟨es, xd _ _ d1 (.inl (notin1 ap.1.symm)), d2, fun p hp => let ⟨t, ht⟩ := d3 p hp; ⟨t, xd.tup ht⟩⟩, ⟨kv, xd _ _ k1 (.inl (notin1 ap.2.symm)), k2⟩⟩
    · show ρ2 t = some (.tup (V.refs (if i = i then bl else g1.bs i)))
      rw [if_pos rfl]; exact xd.tup (p5.tup ht)
    · obtain ⟨t2, s1, s2⟩ := M1.sro
      exact ⟨t2, s1, xd.tup s2⟩
    · obtain ⟨t2, s1, s2⟩ := M1.iro
      exact ⟨t2, s1, xd.tup s2⟩
  have X2 : ExtD V.all ρ ρ2 := p5.trans (xd.mono fun d hd => Vo.mem_all O hi (by simp at hd; simp [hd]))
  have hgs : g2.so = g.so := by rw [hg2]; exact p7
  have hgb : g2.bs = fun j => if j = i then bl else g.bs j := by rw [hg2]; show (fun j => if j = i then bl else g1.bs j) = _; rw [p6]
  have hgd : ∀ c j, V.live c → (j ∈ g2.ds c ↔ j ∈ g.ds c ∧ j ≠ i) := by rw [hg2]; exact p8
  clear f1 f2 f3 M1 d1 d2 d3 k1 c1 c2 hg2
  refine xcons (xFor (ldL S rfl p2 (itTup S (S.o (X2.tup ht)) fun I s' S _ => ?_)))
  refine forLoop_t (α := ChT) (τ := σ ++ τ) (E' := fun _ _ => False) (Wk.tup (by exact hh) I t (V.refs bl)) (fun y => y.ρ) (fun y => [(L, .fr "frame" y.m)])
    (SbU a V ρ2 g2 i bl) noE ?_ ⟨m1, ρ2, g2⟩ S ⟨p1, SX2, G2, .refl _ _, rfl, rfl, fun c j => by simp⟩ ?_ ?_
  · intro k y _ s P S; exact S.o (P.u4.tup (X2.tup ht))
  · rintro k Qb Eb hQb hEb hRb ⟨mk, ρk, gk⟩ v s hv ⟨u1, u2, u3, u4, u5, u6, u7⟩ S
    dsimp only at u1 u2 u3 u4 u5 u6 u7 S
    obtain ⟨c, hc, rfl⟩ : ∃ j, bl[k]? = some j ∧ v = .ref (V.x j) := by
      rw [Vo.refs, List.getElem?_map, Option.map_eq_some_iff] at hv
      obtain ⟨x, e, w⟩ := hv; exact ⟨x, e, w.symm⟩
    have hlc := hbl c (List.mem_of_getElem? hc)
    have hin : i ∉ gk.ds c := by
      rw [u7]
      rintro (q | q)
      · exact ((hgd c i hlc.1).mp q).2 rfl
      · obtain ⟨k', hk'⟩ := List.mem_iff_getElem?.mp q.2
        have hlt := (List.getElem?_eq_some_iff.mp hk').1
        rw [List.length_take] at hlt
        rw [List.getElem?_take_of_lt (by omega)] at hk'
        have := (List.getElem?_inj (by omega) hnd).mp (hk'.trans hc.symm)
        omega
    refine wpAny_of_eq (a := ()) rfl (wpAny_assign_Name (stL S rfl fun s' S => ?_))
    refine pk3 (P1 := fun (m5 : Mp) => St C ρk ((I, titO t (k + 1)) :: (σ ++ τ)) [(L, .fr "frame" m5)] s') (P2 := fun (m5 : Mp) => m5 "self" = some (.ref (V.x i))) (P3 := fun (m5 : Mp) => m5 "b" = some (.ref (V.x c))) _ (S) (u1) (rfl) fun m5 S u1 u9 => ?_
    refine Spx.el1 u2 hlc.1 fun j1 zj mj j2 _ Mj => ?_
    refine xcons (wpAny_Expr_any (xMeth (ldL S rfl u9 (gMeth S j1 j2 (T.icMeth "subscribe" _ rfl) (Mj.dom _ rfl) (cwK TS.fSub.keep (ldL S rfl u1 ⟨S.amb.x, callC ?_⟩))))))
    refine subscribe_ok T TS O u3 u2 hlc.1 hi hin S ((r.deeper (n := 61) _).le (by decide)) fun ρ' s' x' SX' S' => ?_
    refine wpAny_execs_nil (hQb ⟨m5, ρ', gk.addD c i⟩ _ ⟨u1, SX', u3.addD hi hlc.2 hin, u4.trans (x'.mono fun d hd => Vo.mem_all O hlc.1 (by simp at hd; simp [hd])), u5, u6, fun c' j => ?_⟩ S')
    show j ∈ (gk.addD c i).ds c' ↔ _
    rw [mem_addD, u7, List.take_add_one, hc]
    simp only [Option.toList_some, List.mem_append, List.mem_singleton]
    constructor
    · rintro ((h | ⟨h1, h2⟩) | ⟨h1, h2⟩)
      · exact .inl h
      · exact .inr ⟨h1, .inl h2⟩
      · exact .inr ⟨h1, .inr h2⟩
    · rintro (h | ⟨h1, h2 | h2⟩)
      · exact .inl (.inl h)
      · exact .inl (.inr ⟨h1, h2⟩)
      · exact .inr ⟨h1, h2⟩
  rintro ⟨m3, ρ3, g3⟩ s ⟨u1, u2, u3, u4, u5, u6, u7⟩ S
  dsimp only at u1 u2 u3 u4 u5 u6 u7 S
  have hb3 : g3.bs = fun j => if j = i then bl else g.bs j := u5.trans hgb
  have C3 : g3.Con V := fun c j hc hj => by
    rw [u7, hgd c j hc, hb3, Vo.refs, List.length_map, List.take_length]
    show _ ↔ c ∈ (if j = i then bl else g.bs j)
    by_cases q : j = i
    · subst q; simp
    · simp [q, Cn c j hc hj]
  refine wpAny_execs_nil ?_
  refine Spx.el1 u2 hi fun f1 z1 mm f2 hz1 M1 => ?_
  refine xcons (wpAny_Expr_any (xMeth (ldL S rfl u1 (gMeth S f1 f2 (T.icMeth "changed" _ rfl) (M1.dom _ rfl) (cwK TS.fChg.keep (ldL S rfl u1 ⟨S.amb.x, callC ?_⟩))))))
  refine changed_ok T TR TO TS O 6 hi (by (with_reducible exact Nat.le_add_left _ _)) u3 u2 S ((r.deeper (n := 61) _).le (by decide)) hh (Around.frames_deeper hA) (FrOk.own S rfl hF) fun ρ' s' x' SX' S' => ?_
  have bd := chgN_bd (V := V) 6 g3 i
  refine wpAny_execs_nil (hOk ρ' s' (chgN V 6 g3 i) ((X2.trans u4).trans x') SX' (chgN_ok O 6 g3 i hi u3) (fun c j hc hj => by rw [bd.1, bd.2]; exact C3 c j hc hj) (bd.1.trans hb3) (rebase_settled O hi hset u3 C3 hb3 (u6.trans hgs)) S'.forget.back0)
end
end Mine
end
section
open PySem
set_option Elab.async false
set_option linter.unusedVariables false
namespace Mine
open PySem (Sem Str Value Heap Obj Shared)
noncomputable def Vo.add (V : Vo) (i : Nat) (x dx dep imp : Addr) : Vo :=
  { V with live := fun j => V.live j ∨ j = i, x := fun j => if j = i then x else V.x j, dx := fun j => if j = i then dx else V.dx j, dep := fun j => if j = i then dep else V.dep j, imp := fun j => if j = i then imp else V.imp j }
noncomputable def Gs.add (g : Gs) (i : Nat) : Gs := ⟨fun j => if j = i then [] else g.bs j, fun j => if j = i then [] else g.ds j, fun j => if j = i then [] else g.so j⟩
structure NewN (V : Vo) (i : Nat) : Prop where
  hi : ¬ V.live i
  h6 : i < 6
  hrk : V.rk i < 6
  key : ∀ j, V.live j → V.key j ≠ V.key i
  root : ∀ r, V.root i = some r → V.live r ∧ V.rk r ≤ V.rk i
structure NewA (V : Vo) (i : Nat) (x dep imp : Addr) : Prop where
  hx : ∀ j, V.live j → V.x j ≠ x
  hd : ∀ j, V.live j → V.dep j ≠ dep ∧ V.dep j ≠ imp
  hm : ∀ j, V.live j → V.imp j ≠ imp ∧ V.imp j ≠ dep
  ne : dep ≠ imp
section
variable {V : Vo} {g : Gs} {i : Nat} {x dx dep imp : Addr}
theorem NewN.ne (N : NewN V i) {j : Nat} (h : V.live j) : j ≠ i := fun q => N.hi (q ▸ h)
theorem Vo.Ok.add (O : V.Ok) (N : NewN V i) (A : NewA V i x dep imp) : (V.add i x dx dep imp).Ok := by
  have two : ∀ (f : Nat → Addr) (y : Addr), (∀ j, V.live j → f j ≠ y) → (∀ j k, V.live j → V.live k → f j = f k → j = k) →
      ∀ j k, (V.live j ∨ j = i) → (V.live k ∨ k = i) → (if j = i then y else f j) = (if k = i then y else f k) → j = k := by
    intro f y hy hf j k hj hk e
    rcases hj with hj | rfl
    · rw [if_neg (N.ne hj)] at e
      rcases hk with hk | rfl
      · rw [if_neg (N.ne hk)] at e; exact hf j k hj hk e
      · rw [if_pos rfl] at e; exact absurd e (hy j hj)
    · rw [if_pos rfl] at e
      rcases hk with hk | rfl
      · rw [if_neg (N.ne hk)] at e; exact absurd e.symm (hy k hk)
      · rfl
  refine ⟨two V.x x A.hx O.inj, ?_, ?_, ?_, two V.dep dep (fun j hj => (A.hd j hj).1) O.dinj, two V.imp imp (fun j hj => (A.hm j hj).1) O.iinj, ?_, ?_⟩
  · rintro j k (hj | rfl) (hk | rfl) e
    · exact O.kinj j k hj hk e
    · exact absurd e (N.key j hj)
    · exact absurd e.symm (N.key k hk)
    · rfl
  · rintro j (hj | rfl)
    · exact O.rk6 j hj
    · exact N.hrk
  · rintro j (hj | rfl)
    · exact O.six j hj
    · exact N.h6
  · intro j k hj hk
    show (if j = i then dep else V.dep j) ≠ (if k = i then imp else V.imp k)
    rcases hj with hj | rfl
    · rw [if_neg (N.ne hj)]
      rcases hk with hk | rfl
      · rw [if_neg (N.ne hk)]; exact O.apart j k hj hk
      · rw [if_pos rfl]; exact (A.hd j hj).2
    · rw [if_pos rfl]
      rcases hk with hk | rfl
      · rw [if_neg (N.ne hk)]; exact fun e => (A.hm k hk).2 e.symm
      · rw [if_pos rfl]; exact A.ne
  · rintro j r (hj | rfl) hr
    · exact ⟨.inl (O.root j r hj hr).1, (O.root j r hj hr).2⟩
    · exact ⟨.inl (N.root r hr).1, (N.root r hr).2⟩
theorem Gs.Ok.add (G : g.Ok V) (N : NewN V i) : (g.add i).Ok (V.add i x dx dep imp) := by
  have e : ∀ {j : Nat} (f : Nat → List Nat), j ≠ i → (if j = i then [] else f j) = f j := fun f h => if_neg h
  refine ⟨?_, ?_, ?_, ?_, ?_, ?_⟩
  · rintro j (hj | rfl) k hk
    · have hk : k ∈ (if j = i then [] else g.bs j) := hk
      rw [e _ (N.ne hj)] at hk
      have c := G.cl j hj k hk
      exact ⟨.inl c.1, c.2⟩
    · have hk : k ∈ (if j = j then [] else g.bs j) := hk
      rw [if_pos rfl] at hk; cases hk
  · rintro j (hj | rfl)
    · show (if j = i then [] else g.bs j).length ≤ 5
      rw [e _ (N.ne hj)]; exact G.len j hj
    · show (if j = j then [] else g.bs j).length ≤ 5
      rw [if_pos rfl]; exact Nat.zero_le _
  · rintro j (hj | rfl)
    · show (if j = i then [] else g.bs j).Nodup
      rw [e _ (N.ne hj)]; exact G.nd j hj
    · show (if j = j then [] else g.bs j).Nodup
      rw [if_pos rfl]; exact List.nodup_nil
  · rintro j (hj | rfl)
    · show (if j = i then [] else g.ds j).Nodup
      rw [e _ (N.ne hj)]; exact G.dnd j hj
    · show (if j = j then [] else g.ds j).Nodup
      rw [if_pos rfl]; exact List.nodup_nil
  · rintro j (hj | rfl) k hk
    · have hk : k ∈ (if j = i then [] else g.ds j) := hk
      rw [e _ (N.ne hj)] at hk
      have c := G.dep j hj k hk
      exact ⟨.inl c.1, c.2⟩
    · have hk : k ∈ (if j = j then [] else g.ds j) := hk
      rw [if_pos rfl] at hk; cases hk
  · rintro j (hj | rfl)
    · show (if j = i then [] else g.so j).Nodup ∧ ∀ k, k ∈ (if j = i then [] else g.so j) → _
      rw [e _ (N.ne hj)]
      exact ⟨(G.so j hj).1, fun k hk => ⟨.inl ((G.so j hj).2 k hk).1, ((G.so j hj).2 k hk).2⟩⟩
    · show (if j = j then [] else g.so j).Nodup ∧ ∀ k, k ∈ (if j = j then [] else g.so j) → _
      rw [if_pos rfl]; exact ⟨List.nodup_nil, fun k hk => nomatch hk⟩
theorem Gs.Con.add (G : g.Ok V) (Cn : g.Con V) (N : NewN V i) : (g.add i).Con (V.add i x dx dep imp) := by
  intro b j hb hj
  show j ∈ (if b = i then [] else g.ds b) ↔ b ∈ (if j = i then [] else g.bs j)
  rcases hb with hb | rfl
  · rw [if_neg (N.ne hb)]
    rcases hj with hj | rfl
    · rw [if_neg (N.ne hj)]; exact Cn b j hb hj
    · rw [if_pos rfl]
      exact ⟨fun h => absurd (G.dep b hb j h).1 N.hi, fun h => (nomatch h)⟩
  · rw [if_pos rfl]
    rcases hj with hj | rfl
    · rw [if_neg (N.ne hj)]
      exact ⟨fun h => (nomatch h), fun h => absurd (G.cl j hj b h).1 N.hi⟩
    · rw [if_pos rfl]
theorem add_settled (O : V.Ok) (G : g.Ok V) (N : NewN V i) (h : Settled V g) : ∀ k, (V.add i x dx dep imp).live k → k ≠ i → (g.add i).so k = ordS (V.add i x dx dep imp) (g.add i) k := by
  rintro k (hk | rfl) hki
  · have e1 : ordS (V.add i x dx dep imp) (g.add i) k = ordS V (g.add i) k := rfl
    have e2 : ordS V g k = ordS V (g.add i) k := by
      have nb : ∀ j, V.live j → g.bs j = (g.add i).bs j := fun j hj => (if_neg (N.ne hj)).symm
      refine ordS_congr (nb k hk) (fun j hj => (if_neg (N.ne (G.cl k hk j hj).1)).symm) (walkN_congr _ k fun j hj => nb j ?_)
      exact walk_live (G.wo O) _ k hk (Nat.lt_succ_self _) j hj
    rw [e1, ← e2]
    exact (if_neg hki).trans (h k hk)
  · exact absurd rfl hki
theorem add_refs (N : NewN V i) : ∀ {l : List Nat}, (∀ k, k ∈ l → V.live k) → (V.add i x dx dep imp).refs l = V.refs l := fun h => by
  unfold Vo.refs
  refine List.map_congr_left fun k hk => ?_
  show Value.ref (if k = i then x else V.x k) = _
  rw [if_neg (N.ne (h k hk))]
theorem add_rootV (N : NewN V i) {j : Nat} (h : ∀ r, V.root j = some r → V.live r) : (V.add i x dx dep imp).rootV j = V.rootV j := by
  unfold Vo.rootV
  show (match V.root j with | some r => Value.ref (if r = i then x else V.x r) | none => .none) = _
  cases q : V.root j with
  | none => rfl
  | some r => dsimp only; rw [if_neg (N.ne (h r q))]
theorem SpecAt.add {ρ : Wd} {a : Adr} {j : Nat} (O : V.Ok) (G : g.Ok V) (N : NewN V i) (hj : V.live j) (S : SpecAt ρ a V g j) : SpecAt ρ a (V.add i x dx dep imp) (g.add i) j := by
  have hn := N.ne hj
  have ex : ∀ k, V.live k → (V.add i x dx dep imp).x k = V.x k := fun k hk => if_neg (N.ne hk)
  have ed : (V.add i x dx dep imp).dx j = V.dx j := if_neg hn
  have ep : (V.add i x dx dep imp).dep j = V.dep j := if_neg hn
  have ei : (V.add i x dx dep imp).imp j = V.imp j := if_neg hn
  have gb : (g.add i).bs j = g.bs j := if_neg hn
  have gd : (g.add i).ds j = g.ds j := if_neg hn
  have gs : (g.add i).so j = g.so j := if_neg hn
  obtain ⟨h1, ⟨z, m, h2, hz, ⟨m1, m2, m3, m4, m5, m6, m7, m8⟩⟩, ⟨es, d1, d2, d3⟩, ⟨kv, k1, k2⟩⟩ := S
  refine ⟨by rw [ex j hj, ed]; exact h1, ⟨z, m, by rw [ed]; exact h2, hz, ⟨m1, m2, ?_, by rw [ep]; exact m4, by rw [ei]; exact m5, ?_, ?_, ?_⟩⟩, ⟨es, by rw [ep]; exact d1, by rw [gd]; exact d2, fun p hp => ?_⟩, ⟨kv, by rw [ei]; exact k1, k2⟩⟩
  · rw [add_rootV N fun r hr => (O.root j r hj hr).1]; exact m3
  · rw [gb, add_refs N fun k hk => (G.cl j hj k hk).1]; exact m6
  · rw [gs, add_refs N fun k hk => ((G.so j hj).2 k hk).1]; exact m7
  · rw [gs, add_refs N fun k hk => ((G.so j hj).2 k hk).1]; exact m8
  · rw [ex p.1 (G.dep j hj p.1 (by rw [← d2]; exact List.mem_map_of_mem (f := (·.1)) hp)).1]; exact d3 p hp
end
end Mine
end
section
open PySem PySem.W PyProof.Rows PySem.Calls
set_option Elab.async false
set_option maxRecDepth 100000
set_option linter.unusedVariables false
set_option linter.unusedSimpArgs false
set_option maxHeartbeats 2000000
namespace Mine
open PySem (Sem Str Value Heap Obj Shared)
noncomputable def icPos : Pos := ⟨221, 19, 221, 71⟩
structure TextI (C : Cx) (a : Adr) : Prop where
  icCode : FnAtC C.K a.icInit "InterfaceClass.__init__" (clsF 14 0) (.ref a.icDef) (.ref C.c1)
  icTab : TabOf C C.c1 C.P1 icPos
  spC : FnC C.K a.sp "__init__" a.spInit
  mkIC : MkA C.K a.ic a.icInit
  spD : ∃ o td n, C.K.lookup a.spDef = some o ∧ o.data = .seq #[.ref td, .none] n
section
variable {C : Cx} {a : Adr} {V : Vo} {ρ : Wd} {τ σ : Lc} {s : Shared} {A : Around} {E : Value → Shared → Prop} {R : Result → Shared → Prop} {g : Gs} {i b : Nat}
theorem sAttrN {x dx : Addr} {z : Nat} {m : Mp} {name : Str} {v : Value} {Q : Unit → Shared → Prop} (T : Text C a) (S : St C ρ τ σ s) (ei : ρ x = some (.ins a.ic dx)) (ed : ρ dx = some (.nsd z m)) (P : (specNames.contains name) = true) (hz : z ≤ 100) (hm : m name = none)
    (h : ∀ ρ' s', ExtB [dx] ρ ρ' → ρ' x = some (.ins a.ic dx) → ρ' dx = some (.nsd (z + 1) (m.put name v)) → St C ρ' τ σ s' → Q () s') : wpAny C.M A (setAttr (.ref x) name v) Q E s := by
  have P' : (["bases", "key", "sro", "iro", "_ROOT", "_dependents", "_implied"] : List Str).contains name = true := by
    simp only [specNames, List.contains_cons, List.contains_nil, Bool.or_false, Bool.or_eq_true] at P ⊢
    rcases P with h | h | h | h | h | h | h <;> simp [h]
  refine sAttr S ei ed (T.icSet _ P') (Nat.le_trans hz (by decide)) fun s' S => ?_
  rw [hm, Option.isSome_none, if_neg Bool.false_ne_true] at S
  have S : St C (upd ρ dx (.nsd (z + 1) (m.put name v))) τ σ s' := S
  have ne : x ≠ dx := fun q => by rw [q, ed] at ei; cases ei
  exact h _ s' (extB_upd _ _ _) (by rw [upd_ne _ _ ne]; exact ei) (upd_self ..) S
theorem spInit_ok (T : Text C a) (TR : TextR C a) (TO : TextO C a) (TS : TextS C a) (TI : TextI C a) (O : V.Ok) (G : g.Ok V) (Cn : g.Con V) (hset : Settled V g) (N : NewN V i) {x dx tb : Addr} {tk : Tok} {rv : Value} {l : List Env}
    (SX : Spx ρ a V g) (nx : ∀ j, V.live j → V.x j ≠ x) (ndx : ∀ j, V.live j → V.dx j ≠ dx) (ei : ρ x = some (.ins a.ic dx)) (ed : ρ dx = some (.nsd 0 fun _ => none)) (eb : ρ tb = some (.tup [])) (hrv : rv = V.rootV i) (S : St C ρ τ σ s) (r : Rm A 63) (hh : A.handled = none) (hA : A.frames = some l) (hF : FrOk (σ ++ τ) l)
    (hOk : ∀ dep imp ρ' s' g', (V.add i x dx dep imp).Ok → ExtD (V.add i x dx dep imp).all ρ ρ' → Spx ρ' a (V.add i x dx dep imp) g' → g'.Ok (V.add i x dx dep imp) → g'.Con (V.add i x dx dep imp) → g'.bs = (fun j => if j = i then [] else g.bs j) → Settled (V.add i x dx dep imp) g' → St C ρ' τ σ s' → R (.ok (.ret .none)) s') :
    codeAny C.M A (.call (.ref a.spInit) ⟨[.ref x, .int (V.key i) tk, .ref tb, rv], []⟩) R s := by
  obtain ⟨od, td, nd, hod, hdd⟩ := TI.spD
  refine enter S TS.fSpInit r.d (binds := [("self", .ref x), ("key", .int (V.key i) tk), ("bases", .ref tb), ("root", rv)]) (fun _ _ _ _ _ _ => BindsTo.of_defaults rfl (S.amb.x _ _ hod) hdd rfl rfl) fun L cdv s' S => ?_
  refine pk5 (P1 := fun (m0 : Mp) => St C ρ (σ ++ τ) [(L, .fr "frame" m0)] s') (P2 := fun (m0 : Mp) => m0 "self" = some (.ref x)) (P3 := fun (m0 : Mp) => m0 "key" = some (.int (V.key i) tk)) (P4 := fun (m0 : Mp) => m0 "bases" = some (.ref tb)) (P5 := fun (m0 : Mp) => m0 "root" = some rv) _ (S) (rfl) (rfl) (rfl) (rfl) fun m0 S q1 q2 q3 q4 => ?_
  refine xcons (plainObj_wpAny_Assign_Attribute (ldL S rfl q2 (ldL S rfl q1 (sAttrN T S ei ed rfl (by decide) rfl fun ρ1 s' x1 e1 d1 S => ?_))))
  refine xcons (plainObj_wpAny_Assign_Attribute (ldL S rfl q4 (ldL S rfl q1 (sAttrN T S e1 d1 rfl (by decide) rfl fun ρ2 s' x2 e2 d2 S => ?_))))
  refine xcons (plainObj_wpAny_Assign_Attribute (eDict0 S fun dep s' S => ldL S rfl q1 ?_))
  have n3 := S.none_of_nth 1 rfl
  refine S.giveE 1 rfl fun ρ2' y3 f3 S => ?_
  refine sAttrN T S (y3 _ _ e2) (y3 _ _ d2) rfl (by decide) rfl fun ρ3 s' x3 e3 d3 S => ?_
  refine xcons (plainObj_wpAny_Assign_Attribute (eTup ⟨_, _, _, S, Nat.zero_le _, fun t4 s' S => ldL S rfl q1 ?_⟩))
  refine S.giveE 1 rfl fun ρ3' y4 f4 S => ?_
  refine sAttrN T S (y4 _ _ e3) (y4 _ _ d3) rfl (by decide) rfl fun ρ4 s' x4 e4 d4 S => ?_
  refine xcons (plainObj_wpAny_Assign_Attribute (eDict0 S fun imp s' S => ldL S rfl q1 ?_))
  have n5 := S.none_of_nth 1 rfl
  refine S.giveE 1 rfl fun ρ4' y5 f5 S => ?_
  refine sAttrN T S (y5 _ _ e4) (y5 _ _ d4) rfl (by decide) rfl fun ρ5 s' x5 e5 d5 S => ?_
  refine xcons (plainObj_wpAny_Assign_Attribute (eTup ⟨_, _, _, S, Nat.zero_le _, fun t6 s' S => ldL S rfl q1 ?_⟩))
  refine S.giveE 1 rfl fun ρ5' y6 f6 S => ?_
  refine sAttrN T S (y6 _ _ e5) (y6 _ _ d5) rfl (by decide) rfl fun ρ6 s' x6 e6 d6 S => ?_
  refine xcons (plainObj_wpAny_Assign_Attribute (eTup ⟨_, _, _, S, Nat.zero_le _, fun t7 s' S => ldL S rfl q1 ?_⟩))
  refine S.giveE 1 rfl fun ρ6' y7 f7 S => ?_
  refine sAttrN T S (y7 _ _ e6) (y7 _ _ d6) rfl (by decide) rfl fun ρ7 s' x7 e7 d7 S => ?_
  have z1 : ExtD [dx] ρ ρ1 := ExtB.ed x1 ed (.inl ⟨_, _, rfl⟩)
  have z2 : ExtD [dx] ρ1 ρ2 := ExtB.ed x2 d1 (.inl ⟨_, _, rfl⟩)
  have z3 : ExtD [dx] ρ2' ρ3 := ExtB.ed x3 (y3 _ _ d2) (.inl ⟨_, _, rfl⟩)
  have z4 : ExtD [dx] ρ3' ρ4 := ExtB.ed x4 (y4 _ _ d3) (.inl ⟨_, _, rfl⟩)
  have z5 : ExtD [dx] ρ4' ρ5 := ExtB.ed x5 (y5 _ _ d4) (.inl ⟨_, _, rfl⟩)
  have z6 : ExtD [dx] ρ5' ρ6 := ExtB.ed x6 (y6 _ _ d5) (.inl ⟨_, _, rfl⟩)
  have z7 : ExtD [dx] ρ6' ρ7 := ExtB.ed x7 (y7 _ _ d6) (.inl ⟨_, _, rfl⟩)
  have w7 := z7
  have w6 : ExtD [dx] ρ5' ρ7 := (z6.trans (Ext.ed y7)).trans w7
  have w5 : ExtD [dx] ρ4' ρ7 := (z5.trans (Ext.ed y6)).trans w6
  have w4 : ExtD [dx] ρ3' ρ7 := (z4.trans (Ext.ed y5)).trans w5
  have w3 : ExtD [dx] ρ2' ρ7 := (z3.trans (Ext.ed y4)).trans w4
  have w2 : ExtD [dx] ρ ρ2' := (z1.trans z2).trans (Ext.ed y3)
  have w0 : ExtD [dx] ρ ρ7 := w2.trans w3
  have u4 : ExtD [dx] ρ ρ4 := ((w2.trans z3).trans (Ext.ed y4)).trans z4
  have idd : ∀ {j : Nat}, V.live j → (∃ k, ρ (V.dep j) = some (.idict k)) ∧ ∃ k, ρ (V.imp j) = some (.idict k) := fun {j} hj => by
    obtain ⟨_, _, ⟨es, h1, _⟩, ⟨kv, h2, _⟩⟩ := SX j hj
    exact ⟨⟨_, h1⟩, ⟨_, h2⟩⟩
  have notdx : ∀ {p : Addr} {k : List (Int × Value)}, ρ p = some (.idict k) → p ∉ [dx] := fun {p} {k} e => notin1 fun q => by rw [q, ed] at e; cases e
  have NA : NewA V i x dep imp := by
    refine ⟨nx, fun j hj => ?_, fun j hj => ?_, fun q => ?_⟩
    · obtain ⟨⟨k, e⟩, _⟩ := idd hj
      refine ⟨fun q => ?_, fun q => ?_⟩
      · have := (z1.trans z2) _ _ e (.inl (notdx e)); rw [q, n3] at this; cases this
      · have := u4 _ _ e (.inl (notdx e)); rw [q, n5] at this; cases this
    · obtain ⟨_, ⟨k, e⟩⟩ := idd hj
      refine ⟨fun q => ?_, fun q => ?_⟩
      · have := u4 _ _ e (.inl (notdx e)); rw [q, n5] at this; cases this
      · have := (z1.trans z2) _ _ e (.inl (notdx e)); rw [q, n3] at this; cases this
    · have ndep : dep ∉ [dx] := notin1 fun w => by rw [w, y3 _ _ d2] at f3; cases f3
      have := ((z3.trans (Ext.ed y4)).trans z4) _ _ f3 (.inl ndep)
      rw [q, n5] at this; cases this
  have O' : (V.add i x dx dep imp).Ok := O.add N NA
  have G' : (g.add i).Ok (V.add i x dx dep imp) := G.add N
  have C' : (g.add i).Con (V.add i x dx dep imp) := Gs.Con.add G Cn N
  have ndep : dep ∉ [dx] := notin1 fun w => by rw [w, y3 _ _ d2] at f3; cases f3
  have nimp : imp ∉ [dx] := notin1 fun w => by rw [w, y5 _ _ d4] at f5; cases f5
  have SX7 : Spx ρ7 a (V.add i x dx dep imp) (g.add i) := by
    rintro j (hj | rfl)
    · refine SpecAt.add O G N hj ((SX j hj).ext w0 (notin1 (ndx j hj)) ?_ ?_ rfl rfl rfl)
      · obtain ⟨⟨k, e⟩, _⟩ := idd hj; exact notdx e
      · obtain ⟨_, ⟨k, e⟩⟩ := idd hj; exact notdx e
    · have a1 : (V.add j x dx dep imp).x j = x := if_pos rfl
      have a2 : (V.add j x dx dep imp).dx j = dx := if_pos rfl
      have a3 : (V.add j x dx dep imp).dep j = dep := if_pos rfl
      have a4 : (V.add j x dx dep imp).imp j = imp := if_pos rfl
      have a5 : (g.add j).bs j = [] := if_pos rfl
      have a6 : (g.add j).ds j = [] := if_pos rfl
      have a7 : (g.add j).so j = [] := if_pos rfl
      refine ⟨by rw [a1, a2]; exact e7, ⟨_, _, by rw [a2]; exact d7, by decide, ?_⟩, ⟨[], by rw [a3]; exact w3 _ _ f3 (.inl ndep), by rw [a6]; rfl, fun p hp => nomatch hp⟩, ⟨[], by rw [a4]; exact w5 _ _ f5 (.inl nimp), Nat.zero_le _⟩⟩
      refine ⟨?_, ⟨tk, rfl⟩, ?_, ?_, ?_, ⟨t4, rfl, ?_⟩, ⟨t7, rfl, ?_⟩, ⟨t6, rfl, ?_⟩⟩
      · exact SDom.put (SDom.put (SDom.put (SDom.put (SDom.put (SDom.put (SDom.put (fun _ _ => rfl) rfl) rfl) rfl) rfl) rfl) rfl) rfl
      · rw [add_rootV N fun r hr => (N.root r hr).1, ← hrv]; rfl
      · rw [a3]; rfl
      · rw [a4]; rfl
      · rw [a5]; exact w4.tup f4
      · rw [a7]; exact w7.tup f7
      · rw [a7]; exact w6.tup f6
  have sall : ∀ d, d ∈ [dx] → d ∈ (V.add i x dx dep imp).all := fun d hd => Vo.mem_all O' (i := i) (.inr rfl) (by
    cases List.mem_singleton.mp hd
    show dx ∈ [if i = i then dx else V.dx i, _, _]
    rw [if_pos rfl]; exact .head _)
  have ax : (V.add i x dx dep imp).x i = x := if_pos rfl
  refine xcons (wpAny_Expr_any (xMeth (ldL S rfl q1 (gMeth S e7 d7 (T.icMeth "setBases" _ rfl) rfl (cwK TS.fSetB.keep (Call_ (ldB S (T.nog _ rfl) rfl (cwT (ldL S rfl q3 (call_tuple_tup (S.o (w0.tup eb)) ⟨S.amb.x, callC ?_⟩))))))))))
  refine Eq.mp (congrArg (fun y => codeAny C.M _ (.call (.ref a.setBases) ⟨[.ref y, .ref tb], []⟩) _ _) ax) ?_
  refine setBases_ok T TR TO TS O' (i := i) (bl := []) (t := tb) (.inr rfl) G' C' (add_settled O G N hset) (fun j hj => nomatch hj) List.nodup_nil (Nat.zero_le _) SX7 (w0.tup eb) S ((r.deeper (n := 62) _).le (by decide)) hh (Around.frames_deeper hA) (FrOk.own S rfl hF) fun ρ' s' g' x' SX' G2 C2 hb' hset' S' => ?_
  refine wpAny_execs_nil (hOk dep imp ρ' s' g' O' ((w0.mono sall).trans x') SX' G2 C2 ?_ hset' S'.forget.back0)
  rw [hb']
  funext j
  by_cases q : j = i
  · rw [if_pos q, if_pos q]
  · rw [if_neg q]; rfl
end
end Mine
end
section
open PySem PySem.W PyProof.Rows PySem.Calls
set_option Elab.async false
set_option maxRecDepth 100000
set_option linter.unusedVariables false
set_option linter.unusedSimpArgs false
set_option maxHeartbeats 2000000
namespace Mine
open PySem (Sem Str Value Heap Obj Shared)
section
variable {C : Cx} {a : Adr} {V : Vo} {ρ : Wd} {τ σ : Lc} {s : Shared} {A : Around} {E : Value → Shared → Prop} {R : Result → Shared → Prop} {g : Gs} {i b : Nat}
theorem mkIC_ok (T : Text C a) (TR : TextR C a) (TO : TextO C a) (TS : TextS C a) (TI : TextI C a) (O : V.Ok) (G : g.Ok V) (Cn : g.Con V) (hset : Settled V g) (N : NewN V i) {tb : Addr} {tk : Tok} {rv : Value} {l : List Env} {rest : List Value}
    (SX : Spx ρ a V g) (eb : ρ tb = some (.tup [])) (hrv : rv = V.rootV i) (S : St C ρ τ σ s) (r : Rm A 65) (hh : A.handled = none) (hA : A.frames = some l) (hF : FrOk (σ ++ τ) l)
    (hb : ∀ x (s : Shared) kV doc pm an ct, Amb C s.heap → BindsTo s (fnX (clsF 14 0).name "InterfaceClass.__init__" (clsF 14 0).params (clsF 14 0).body (clsF 14 0).scope [] (.ref a.icDef) kV doc pm an (.ref C.c1) ct) ⟨.ref x :: rest, []⟩
      [("self", .ref x), ("key", .int (V.key i) tk), ("bases", .ref tb), ("root", rv)])
    (hOk : ∀ x dx dep imp ρ' s' g', (V.add i x dx dep imp).Ok → ExtD (V.add i x dx dep imp).all ρ ρ' → Spx ρ' a (V.add i x dx dep imp) g' → g'.Ok (V.add i x dx dep imp) → g'.Con (V.add i x dx dep imp) → g'.bs = (fun j => if j = i then [] else g.bs j) → Settled (V.add i x dx dep imp) g' → St C ρ' τ σ s' → R (.ok (.ret (.ref x))) s') :
    codeAny C.M A (.call (.ref a.ic) ⟨rest, []⟩) R s := by
  refine mk_St S TI.mkIC fun x dx s' nx nd hne S => ?_
  have r1 := Rm.mk (n := 64) r a.ic rest []
  have hh1 : (A.under (.builtin "type.__call__" ⟨.ref a.ic :: rest, []⟩)).handled = none := by rw [under_mk]; exact hh
  have hA1 : (A.under (.builtin "type.__call__" ⟨.ref a.ic :: rest, []⟩)).frames = some l := by rw [under_mk]; exact hA
  generalize A.under (.builtin "type.__call__" ⟨.ref a.ic :: rest, []⟩) = A1 at r1 hh1 hA1 ⊢
  have x1 : Ext ρ (upd (upd ρ dx (.nsd 0 fun _ => none)) x (.ins a.ic dx)) := ext_own nx nd
  have f1 : upd (upd ρ dx (.nsd 0 fun _ => none)) x (.ins a.ic dx) x = some (.ins a.ic dx) := upd_self ..
  have f2 : upd (upd ρ dx (.nsd 0 fun _ => none)) x (.ins a.ic dx) dx = some (.nsd 0 fun _ => none) := by rw [upd_ne _ _ (Ne.symm hne), upd_self]
  generalize upd (upd ρ dx (.nsd 0 fun _ => none)) x (.ins a.ic dx) = ρ1 at S x1 f1 f2
  refine enterCE S TI.icCode r1.d (hb x s' · · · · · S.amb) fun L s' S => ?_
  refine pk5 (P1 := fun (m0 : Mp) => St C ρ1 (σ ++ τ) [(L, .fr "frame" m0)] s') (P2 := fun (m0 : Mp) => m0 "self" = some (.ref x)) (P3 := fun (m0 : Mp) => m0 "key" = some (.int (V.key i) tk)) (P4 := fun (m0 : Mp) => m0 "bases" = some (.ref tb)) (P5 := fun (m0 : Mp) => m0 "root" = some rv) _ (S) (rfl) (rfl) (rfl) (rfl) fun m0 S q1 q2 q3 q4 => ?_
  have r2 : Rm (A1.deeper (envX "InterfaceClass.__init__" (clsF 14 0).scope L a.icInit (.ref C.c1) (cellsFrom (L + 1) (clsF 14 0).scope.names []))) 63 := Rm.deeper (n := 63) (r1.le (by (with_reducible exact Nat.le_refl _))) _
  have eb1 := x1 _ _ eb
  have htb : tb ≠ C.P1 := fun q => by
    obtain ⟨o, ho, hc, _⟩ := S.o eb1
    rcases TI.icTab.tab S.amb with t | ⟨c', t⟩
    · rw [q, t.2] at ho; cases ho; cases hc
    · rw [q, t.2] at ho; cases ho; cases hc
  refine xcons (wpAny_If (isTrue_not (isTrue_plain (Call_ (ldB S (T.nog _ rfl) rfl (cwB ?_))))))
  refine genexp_St (ρ := ρ1) (τ := σ ++ τ) (σ := [(L, .fr "frame" m0)]) TI.icTab TR.b rfl rfl hh1 r2.d (n := 0) (F := fun _ _ => False) (ldL S rfl q3 (itTup S (S.o eb1) fun I s' S htup => ?_))
  have hit : (titO tb 0).At C s'.heap I := S.ta 0 rfl
  refine ⟨I, [I, tb], fun q v => (#[] : Array Value)[q]? = some v, _, titO tb 0, rfl, S, fun A' hA' => Walks.tuple hA' I tb (ne_it_tup htup hit (by decide)) #[], ⟨hit, htup⟩, ?_, ?_, ?_⟩
  · intro p hp
    rcases List.mem_cons.mp hp with rfl | hp
    · exact ⟨fun q => TI.icTab.pb (q ▸ (S.loc (p, titO tb 0) (List.mem_append_right _ (.head _))).2.1), hit.there⟩
    · cases List.mem_singleton.mp hp
      exact ⟨htb, (S.o eb1).there⟩
  · intro Lg code A' E' q v s1 mg hA' hd hu hPi
    simp at hPi
  intro ag s' G0
  refine all_none G0 fun s' S => wpAny_truthy_bool ?_
  rw [if_neg (show ¬ ((!true) = true) from Bool.false_ne_true)]
  refine wpAny_execs_nil (xcons (wpAny_Expr_any (xMeth (ldG S (T.glob _ _ rfl) (gFnC S TI.spC fun s' S => cwK TS.fSpInit.keep (ldL S rfl q1 (ldL S rfl q2 (ldL S rfl q3 (ldL S rfl q4 ⟨S.amb.x, callC ?_⟩)))))))))
  refine spInit_ok T TR TO TS TI O G Cn hset N (SX.ext x1) (fun j hj q => ?_) (fun j hj q => ?_) f1 f2 eb1 hrv S r2 hh1 (Around.frames_deeper hA1) (FrOk.own S rfl hF) fun dep imp ρ' s' g' O' x' SX' G' C' hb' hset' S' => ?_
  · have := (SX j hj).ins; rw [q, nx] at this; cases this
  · obtain ⟨z, m, e, _⟩ := (SX j hj).nsd; rw [q, nd] at e; cases e
  · exact wpAny_execs_nil ⟨rfl, hOk x dx dep imp ρ' s' g' O' ((Ext.ed x1).trans x') SX' G' C' hb' hset' S'.forget.back0⟩
end
end Mine
end
section
open PySem PySem.W PyProof.Rows PySem.Calls
set_option Elab.async false
set_option maxRecDepth 100000
set_option linter.unusedVariables false
set_option linter.unusedSimpArgs false
namespace Mine
open PySem (Sem Str Value Heap Obj Shared)
noncomputable abbrev rgI (a c : Int) (n i : Nat) : AObj := .raw { cls := .type "range_iterator", dict := none, data := .fields #[rawInt (a + (i : Int) * c), rawInt ((n : Int) - (i : Int)), rawInt c], slots := #[] }
theorem raw_eq {C : Cx} {h : Heap} {a : Addr} {o : Obj} (x : (AObj.raw o).At C h a) (n : o.cls ≠ .type "frame") : h.get? a = some o := by
  obtain ⟨o', e, s⟩ := x
  rw [s.eq n] at e; exact e
theorem Wp.range {C : Cx} {A : Around} (hh : A.handled = none) (I : Addr) (a c : Int) (n : Nat) : Wp C A I (rgI a c n) n (fun i v => ∃ t, v = .int (a + (i : Int) * c) t) (fun _ => True) where
  item := fun i s Q E hi hit _ hQ => by
    refine wpAny_pyNext_range_item (raw_eq hit (show Value.type "range_iterator" ≠ _ by decide)) (by omega) fun h' hit' hs => hQ _ _ ⟨_, rfl⟩ ⟨hs.extBut, rfl, fun x => x⟩ ⟨_, hit', ?_⟩
    have e1 : a + ((i + 1 : Nat) : Int) * c = a + (i : Int) * c + c := by push_cast; rw [Int.add_mul, Int.one_mul, Int.add_assoc]
    have e2 : (n : Int) - ((i + 1 : Nat) : Int) = (n : Int) - (i : Int) - 1 := by push_cast; omega
    rw [e1, e2]; exact .refl _
  done := fun s Q E hit _ hQ => wpAny_pyNext_range_end hh (raw_eq hit (show Value.type "range_iterator" ≠ _ by decide)) (by omega) fun h' he => hQ _ ⟨he, rfl, fun x => x⟩
  self := fun i s Q E hit h => wpAny_pyIter_rangeiter (raw_eq hit (show Value.type "range_iterator" ≠ _ by decide)) h
theorem small_1 : ∀ n : Nat, n ≤ 60 → Builtin.Range.small 0 n 1 = true := by decide +kernel
theorem size_1 : ∀ n : Nat, n ≤ 60 → Builtin.Range.rangeSize 0 n 1 = n := by decide +kernel
section
variable {C : Cx} {τ : Lc} {s : Shared} {A : Around} {E E' : Value → Shared → Prop} {env : Env} {pos : Pos} {Q : Value → Shared → Prop} {R : Result → Shared → Prop}
theorem xRange {ρ : Wd} {σ : Lc} {n : Nat} {t : Tok} (S : St C ρ τ σ s) (hn : n ≤ 60) (h : ∀ I s', St C ρ ((I, rgI 0 1 n 0) :: τ) σ s' → Q (.ref I) s') :
    wpAny C.M A (call (.type "range") [.int n t]) (fun v s₁ => wpAny C.M A (pyIter v) Q E s₁) E s := by
  refine call_range_1 ?_
  have S1 := (S.grow (pushG s { cls := .type "range", data := .fields #[.int 0 s.toks, .int n t, .int 1 (s.toks + 1)] })).tok (s.toks + 1 + 1)
  refine wpAny_pyIter_range (IsRange.new _ _ _ _ _ _ _) (small_1 n hn) ?_
  rw [size_1 n hn]
  refine h _ _ (S1.addT (pushG _ _) (none_size _) ⟨_, Heap.get?_push_size _ rfl, ?_⟩)
  simp
  exact .refl _
theorem forP_t {α : Type} {target : Expr} {body orelse : List Stmt} {I : Addr} {it : Nat → AObj} {n : Nat} {F : Nat → Value → Prop} {dep : Heap → Prop} (W : Wp C A I it n F dep) (ρ : α → Wd) (σ : α → Lc) (P : Nat → α → Prop)
    (hE : ∀ e s', E' e s' → notedBy C.M A env (fun e s' => R (.error e) s') e s')
    (hdep : ∀ i x a s, P i x → St C (ρ x) ((I, a) :: τ) (σ x) s → dep s.heap)
    (x0 : α) (S : St C (ρ x0) ((I, it 0) :: τ) (σ x0) s) (h0 : P 0 x0)
    (turn : ∀ i (Qb : Flow → Shared → Prop) (Eb : Value → Shared → Prop), (∀ x' s', P (i + 1) x' → St C (ρ x') ((I, it (i + 1)) :: τ) (σ x') s' → Qb .next s') → (∀ e s', E' e s' → Eb e s') → (∀ v s', R (.ok (.ret v)) s' → Qb (.ret v) s') →
      ∀ x v s, i < n → F i v → P i x → St C (ρ x) ((I, it (i + 1)) :: τ) (σ x) s → turnWp C.M A target I body env Qb Eb v s)
    (fin : ∀ x s, P n x → St C (ρ x) τ (σ x) s → wpAny C.M A (execs orelse env) (fun f s₃ => R (.ok f) s₃) E' s) :
    codeAny C.M A (.forLoop target (.ref I) body orelse env) R s :=
  forP_st W ρ σ P hE hdep x0 S h0 (fun i x v s hi hv hP S => turn i _ _ (fun x' s' p q => ⟨x', p, q⟩) (fun _ _ h => h) (fun _ _ h => h) x v s hi hv hP S) fin
theorem compP_st {α : Type} {elt iter : Expr} {x : Str} {px : Pos} {ifs : List Expr} {scope : Scope} {pos : Pos} {cl : List (Str × Addr)} (ρ : α → Wd) (σ : α → Lc) (P : Nat → α → List Value → Prop)
    (hclos : closureFor scope env = pure cl)
    (hnames : (scope.names.all fun y => (y.2 != .local || scope.names.lookup y.1 == some .local) && y.2 != .cell) = true) (hx : scope.names.lookup x = some .local)
    (h : wpAny C.M A (eval iter env) (iterB C.M A E (LpAt C A env elt ifs scope cl ρ σ P τ x Q fun _ _ _ => False)) E s)
    (hk : scope.kind = .function := by rfl)
    (hs : ∀ x, foldedSetIterable iter env x = pure x := by intro _; rfl) :
    wpAny C.M A (eval (.ListComp elt [⟨.Name x px, iter, ifs, 0⟩] scope pos) env) Q E s :=
  comp_stE ρ σ P hclos hnames hx (fun _ _ _ f => f.elim) h hk hs
end
end Mine
end
section
open PySem PySem.W PyProof.Rows PySem.Calls
set_option Elab.async false
set_option maxRecDepth 100000
set_option linter.unusedVariables false
set_option linter.unusedSimpArgs false
namespace Mine
open PySem (Sem Str Value Heap Obj Shared)
noncomputable abbrev toI (ns : List Nat) : List Int := ns.map (fun n : Nat => (n : Int))
noncomputable abbrev IL (vs : List Value) (ns : List Nat) : Prop := IntsAre vs (toI ns)
theorem IL.nil : IL [] [] := IntsAre.nil
theorem IL.one (n : Nat) (t : Tok) : IL [.int n t] [n] := IntsAre.cons _ _ IntsAre.nil
theorem IL.app {vs ws : List Value} {ns ms : List Nat} (h : IL vs ns) (h' : IL ws ms) : IL (vs ++ ws) (ns ++ ms) := by
  show IntsAre (vs ++ ws) (toI (ns ++ ms))
  rw [show toI (ns ++ ms) = toI ns ++ toI ms from List.map_append ..]
  exact IntsAre.append h h'
theorem IL.len {vs : List Value} {ns : List Nat} (h : IL vs ns) : vs.length = ns.length := by
  have := IntsAre.length h
  rw [this, List.length_map]
theorem IL.get {vs : List Value} {ns : List Nat} (h : IL vs ns) {i : Nat} {v : Value} (e : vs[i]? = some v) : ∃ n t, v = .int (n : Nat) t ∧ ns[i]? = some n := by
  obtain ⟨k, t, rfl, hk⟩ := IntsAre.at h i v e
  rw [List.getElem?_map, Option.map_eq_some_iff] at hk
  obtain ⟨n, hn, rfl⟩ := hk
  exact ⟨n, t, rfl, hn⟩
theorem IL.getN {vs : List Value} {ns : List Nat} (h : IL vs ns) {i n : Nat} (e : ns[i]? = some n) : ∃ t, vs[i]? = some (.int (n : Nat) t) :=
  IntsAre.get h i n (by rw [List.getElem?_map, e]; rfl)
theorem IL.take {vs : List Value} {ns : List Nat} (h : IL vs ns) (k : Nat) : IL (vs.take k) (ns.take k) := by
  have := IntsAre.take h k
  rw [← List.map_take] at this; exact this
theorem IL.drop {vs : List Value} {ns : List Nat} (h : IL vs ns) (k : Nat) : IL (vs.drop k) (ns.drop k) := by
  have := IntsAre.drop h k
  rw [← List.map_drop] at this; exact this
theorem IL.rev {vs : List Value} {ns : List Nat} (h : IL vs ns) : IL vs.reverse ns.reverse := by
  have := IntsAre.reverse h
  rw [← List.map_reverse] at this; exact this
theorem any_toI (ns : List Nat) (n : Nat) : (toI ns).any (· == (n : Int)) = ns.contains n := by
  rw [List.any_map, List.contains_eq_any_beq]
  refine Bool.eq_iff_iff.mpr ?_
  rw [List.any_eq_true, List.any_eq_true]
  refine ⟨fun ⟨k, hk, e⟩ => ⟨k, hk, ?_⟩, fun ⟨k, hk, e⟩ => ⟨k, hk, ?_⟩⟩
  · have : (k : Int) = n := by simpa using e
    have : k = n := by omega
    rw [this]; simp
  · have : n = k := by simpa using e
    rw [this]; simp
theorem toI_inj {ns ms : List Nat} : toI ns = toI ms ↔ ns = ms := by
  constructor
  · intro h
    induction ns generalizing ms with
    | nil => cases ms with
      | nil => rfl
      | cons _ _ => cases h
    | cons a l ih =>
      cases ms with
      | nil => cases h
      | cons b m =>
        have h1 := List.cons.inj h
        have : a = b := Int.ofNat.inj h1.1
        rw [this, ih h1.2]
  · intro h; rw [h]
section
variable {C : Cx} {ρ : Wd} {τ σ : Lc} {s : Shared} {A : Around} {E : Value → Shared → Prop} {env : Env} {pos : Pos} {Q : Value → Shared → Prop} {l b : Addr} {vs ws : List Value} {ns ms : List Nat} {n : Nat} {t : Tok}
theorem nInI (hl : s.heap.PlainList l vs.toArray) (hi : IL vs ns) (h : Q (.bool (!ns.contains n)) s) : wpAny C.M A (compareOp .NotIn (.int (n : Nat) t) (.ref l)) Q E s :=
  notin_list_ints hl.isList hi (by rw [any_toI]; exact h)
theorem eqI (hl : s.heap.PlainList l vs.toArray) (hb : s.heap.PlainList b ws.toArray) (hi : IL vs ns) (hj : IL ws ms) (hu : A.units + 64 < cLine) (h : Q (.bool (decide (ns = ms))) s) : wpAny C.M A (compareOp .Eq (.ref l) (.ref b)) Q E s :=
  ke_eq_ints hl.isList hb.isList hi hj hu (by rw [show decide (toI ns = toI ms) = decide (ns = ms) from decide_eq_decide.mpr toI_inj]; exact h)
theorem neI (hl : s.heap.PlainList l vs.toArray) (hb : s.heap.PlainList b ws.toArray) (hi : IL vs ns) (hj : IL ws ms) (hu : A.units + 64 < cLine) (h : Q (.bool (!decide (ns = ms))) s) : wpAny C.M A (compareOp .NotEq (.ref l) (.ref b)) Q E s :=
  ke_ne_ints hl.isList hb.isList hi hj hu (by rw [show decide (toI ns = toI ms) = decide (ns = ms) from decide_eq_decide.mpr toI_inj]; exact h)
theorem sIdxI {value slice : Expr} {i : Nat} (hl : s.heap.PlainList l vs.toArray) (hi : IL vs ns) (hk : ns[i]? = some n) (hz : vs.length ≤ Big) (h : ∀ t, Q (.int (n : Nat) t) s)
    (hs : subscripted slice false (.ref l) (.int (i : Nat) t) = operate [.ref l, .int (i : Nat) t] (getItem (.ref l) (.int (i : Nat) t)) := by with_unfolding_all rfl) :
    wpAny C.M A (subscriptTail value slice (.ref l) (.int (i : Nat) t)) Q E s := by
  obtain ⟨u, hu⟩ := hi.getN hk
  have h1 := (List.getElem?_eq_some_iff.mp hu).1
  have : vs.length ≤ 100000 := hz
  exact sIdx hl (by rw [Int.toNat_natCast]; exact hu) (by (with_reducible exact Int.natCast_nonneg _)) (by omega) (h u) hs
theorem sSlice {value slice : Expr} {xs : List Value} {vl vu vk : Value} {lo hi st : Option Int} {ops : List Value} (S : St C ρ τ σ s) (hl : s.heap.PlainList l xs.toArray) (pl : IsPart vl lo) (pu : IsPart vu hi) (pk : IsPart vk st) (h0 : st ≠ some 0) (hz : xs.length ≤ Big)
    (h : ∀ r s', St C ρ τ (σ ++ [(r, .list (slicePick xs.toArray lo hi st).toList)]) s' → Q (.ref r) s')
    (hs : subscripted slice false (.ref l) (.ref s.heap.objs.size) = operate ops (getItem (.ref l) (.ref s.heap.objs.size)) := by with_unfolding_all rfl) :
    wpAny C.M A (subscriptTail value slice (.ref l) (.ref s.heap.objs.size)) Q E { s with heap := s.heap.push { cls := .type "slice", data := .fields #[vl, vu, vk] } } := by
  have hl' := hl.isList
  refine tail_any (Heap.IsList.typeIs (s := { s with heap := s.heap.push { cls := .type "slice", data := .fields #[vl, vu, vk] } }) (hl'.push _)) slot_list_getitem.lookup
    (wpAny_getItem_list_slice (hl'.push _) (Heap.IsSliceOf.new ..) pl pu pk h0 ?_ (sz_toArray hz)) hs
  have S1 := S.grow (pushG s { cls := .type "slice", data := .fields #[vl, vu, vk] })
  have S2 := S1.newList (slicePick xs.toArray lo hi st).toList
  rw [show (slicePick xs.toArray lo hi st).toList.toArray = slicePick xs.toArray lo hi st from by simp] at S2
  exact h _ _ S2
theorem sUpto {value slice : Expr} {xs : List Value} {k : Nat} {ops : List Value} (S : St C ρ τ σ s) (hl : s.heap.PlainList l xs.toArray) (hz : xs.length ≤ Big)
    (h : ∀ r s', St C ρ τ (σ ++ [(r, .list (xs.take k))]) s' → Q (.ref r) s')
    (hs : subscripted slice false (.ref l) (.ref s.heap.objs.size) = operate ops (getItem (.ref l) (.ref s.heap.objs.size)) := by with_unfolding_all rfl) :
    wpAny C.M A (subscriptTail value slice (.ref l) (.ref s.heap.objs.size)) Q E { s with heap := s.heap.push { cls := .type "slice", data := .fields #[.none, .int (k : Nat) t, .none] } } :=
  sSlice S hl .none (.int _ _) .none (by simp) hz (fun r s' S => by
    rw [slicePick_upto'] at S
    exact h r s' S) hs
theorem take_range (xs : List Value) : ∀ n, n ≤ xs.length → (List.range n).filterMap (fun k => xs[k]?) = xs.take n
  | 0, _ => rfl
  | n + 1, h => by
    rw [List.range_succ, List.filterMap_append, take_range xs n (by omega), List.take_add_one]
    have : xs[n]? = some xs[n] := List.getElem?_eq_getElem (by (with_reducible exact Nat.lt_of_succ_le ‹_›))
    simp [this]
theorem filterMap_cong {α β : Type} {f g : α → Option β} : ∀ {l : List α}, (∀ x, x ∈ l → f x = g x) → l.filterMap f = l.filterMap g
  | [], _ => rfl
  | a :: l, h => by rw [List.filterMap_cons, List.filterMap_cons, h a (.head _), filterMap_cong fun x hx => h x (.tail _ hx)]
theorem pick_back (xs : List Value) : (slicePick xs.toArray none (some 0) (some (-1))).toList = xs.tail.reverse := by
  unfold slicePick sliceRange
  cases xs with
  | nil => rfl
  | cons a l =>
    have e : sliceBounds none (some 0) (some (-1)) (a :: l).toArray.size = ((l.length : Int), 0, -1) := by
      simp only [sliceBounds, Option.getD_some, List.size_toArray, List.length_cons]
      have h1 : ¬ ((-1 : Int) > 0) := by decide
      have h2 : ¬ ((0 : Int) < 0) := by decide
      simp only [h1, h2, if_false]
      refine Prod.ext ?_ (Prod.ext ?_ rfl)
      · show ((l.length + 1 : Nat) : Int) - 1 = l.length
        omega
      · show max (-1 : Int) (min 0 (((l.length + 1 : Nat) : Int) - 1)) = 0
        omega
    rw [e]
    dsimp only
    have h1 : ¬ ((-1 : Int) > 0) := by decide
    rw [if_neg h1]
    have h3 : (if ((l.length : Int)) > 0 then ((l.length : Int) - 0 - (-1) - 1) / (-(-1)) else 0) = l.length := by
      split
      · show ((l.length : Int) - 0 - (-1) - 1) / 1 = l.length
        omega
      · omega
    rw [h3, Int.toNat_natCast, List.tail_cons, ← List.take_length (l := l.reverse), ← take_range l.reverse _ (Nat.le_refl _), List.length_reverse]
    simp only [List.filterMap_map]
    refine filterMap_cong fun k hk => ?_
    have hk : k < l.length := List.mem_range.mp hk
    show (a :: l).toArray[((l.length : Int) + -1 * (k : Int)).toNat]? = l.reverse[k]?
    have h4 : ((l.length : Int) + (-1) * (k : Int)).toNat = (l.length - 1 - k) + 1 := by omega
    rw [h4, List.getElem?_reverse hk]
    simp
end
end Mine
end
section
open PySem PySem.W PyProof.Rows PySem.Calls
set_option Elab.async false
set_option maxRecDepth 100000
set_option linter.unusedVariables false
set_option linter.unusedSimpArgs false
namespace Mine
open PySem (Sem Str Value Heap Obj Shared)
section
variable {C : Cx} {ρ : Wd} {τ σ : Lc} {s : Shared} {A : Around} {E : Value → Shared → Prop} {env : Env} {pos : Pos} {Q : Value → Shared → Prop} {d l b : Addr} {vs ws xs : List Value} {ns ms : List Nat} {n : Nat} {t u : Tok}
theorem eDictI {keys : List (Option Expr)} {values : List Expr} (S : St C ρ τ σ s)
    (h : ∀ d s', St C ρ τ (σ ++ [(d, .idict [])]) s' → wpAny C.M A (evalPairs (pairTrees keys values env pos)) (fun vs s₁ => allIntKeys vs = true ∧ ((intKeyPairs vs).map (·.1)).Nodup ∧ (AObj.idict []).At C s₁.heap d ∧
      ∀ s₂, Chg d s₁ s₂ → (AObj.idict (intKeyPairs vs)).At C s₂.heap d → Q (.ref d) s₂) E s')
    (hall : keys.all (·.isSome) = true := by rfl) (hl : keys.length = values.length := by rfl) (h0 : keys ≠ [] := by exact fun q => nomatch q) (hlen : keys.length ≤ 15 := by decide) : wpAny C.M A (eval (.Dict keys values pos) env) Q E s := by
  refine wpAny_Dict_walk (knd := intKind C.prog C.w) hall hl h0 hlen (wpAny_mono (h _ _ (S.newDict S.sys)) (fun vs s₁ hq => ?_) fun _ _ e => e)
  obtain ⟨h1, h2, h3, h4⟩ := hq
  exact display_done_int h1 h2 h3.1 fun h' hm hs => h4 _ ⟨hs.extBut, rfl, fun x => x⟩ ⟨hm, h3.2⟩
theorem eDictS {keys : List (Option Expr)} {values : List Expr} (S : St C ρ τ σ s)
    (h : ∀ d s', St C ρ τ (σ ++ [(d, .sdict [])]) s' → wpAny C.M A (evalPairs (pairTrees keys values env pos)) (fun vs s₁ => allStrKeys vs = true ∧ ((strPairs vs).map (·.1)).Nodup ∧ (AObj.sdict []).At C s₁.heap d ∧
      ∀ s₂, Chg d s₁ s₂ → (AObj.sdict (strPairs vs)).At C s₂.heap d → Q (.ref d) s₂) E s')
    (hall : keys.all (·.isSome) = true := by rfl) (hl : keys.length = values.length := by rfl) (h0 : keys ≠ [] := by exact fun q => nomatch q) (hlen : keys.length ≤ 15 := by decide) : wpAny C.M A (eval (.Dict keys values pos) env) Q E s := by
  have S1 : St C ρ τ (σ ++ [(s.heap.objs.size, .sdict [])]) { s with heap := s.heap.push { cls := .type "dict", data := .dict #[] } } :=
    S.add (pushG s _) (none_size _) ⟨Heap.DictOf.new _, by simpa using fun q : s.heap.objs.size = sysModules => S.sys (q ▸ none_size _)⟩
  refine wpAny_Dict_walk (knd := strKind C.prog C.w) hall hl h0 hlen (wpAny_mono (h _ _ S1) (fun vs s₁ hq => ?_) fun _ _ e => e)
  obtain ⟨h1, h2, h3, h4⟩ := hq
  exact display_done_str h1 h2 h3.1 fun h' hm hs => h4 _ ⟨hs.extBut, rfl, fun x => x⟩ ⟨hm, h3.2⟩
theorem sSGet {value slice : Expr} {kvs : List (Str × Value)} {k : Str} {v : Value} (S : St C ρ τ σ s) (hd : (AObj.sdict kvs).At C s.heap d) (hv : valueAt kvs k = some v) (h : ∀ s', St C ρ τ σ s' → Q v s')
    (hs : subscripted slice false (.ref d) (.str k t) = operate [.ref d, .str k t] (getItem (.ref d) (.str k t)) := by with_unfolding_all rfl) :
    wpAny C.M A (subscriptTail value slice (.ref d) (.str k t)) Q E s :=
  tail_any hd.1.typeIs slot_dict_getitem.lookup (wpAny_getItem_of (strIs k t) hd.1.mapOf hv (h _ (S.tok _))) hs
theorem cStr {x : Str} {k : Nat} {pos : Pos} (S : St C ρ τ σ s) (h : ∀ t s', St C ρ τ σ s' → Q (.str x t) s') : wpAny C.M A (eval (.Constant (.str x) k pos) env) Q E s :=
  wpAny_Constant_str (h _ _ (S.grow ⟨fun _ _ e => e, rfl, fun x => x⟩))
theorem xLenD {kvs : List (Int × Value)} (S : St C ρ τ σ s) (hd : (AObj.idict kvs).At C s.heap d) (hz : kvs.length ≤ Big) (h : ∀ t s', St C ρ τ σ s' → Q (.int kvs.length t) s') : wpAny C.M A (call (.builtin "len") [.ref d]) Q E s :=
  call_len_dict hd.2 hd.1 (by have : kvs.length ≤ 100000 := hz; ((with_reducible refine oz5 ‹_› ?_); exact rfl)) (h _ _ (S.tok _))
theorem hLSet {i : Nat} {v : Value} {Q : Unit → Shared → Prop} (hl : s.heap.PlainList l xs.toArray) (hi : i < xs.length) (hz : xs.length ≤ Big)
    (h : ∀ s', Chg l s s' → (AObj.list (xs.set i v)).At C s'.heap l → Q () s') : wpAny C.M A (setItem (.ref l) (.int (i : Nat) t) v) Q E s := by
  have hz' : xs.length ≤ 100000 := hz
  obtain ⟨n, ho⟩ := hl
  have hl : s.heap.IsList l xs.toArray := ⟨_, ho, rfl, _, rfl⟩
  refine pk1 (P1 := fun (k : Int) => k = (i : Nat)) _ (rfl) fun k hk => ?_
  have h0 : 0 ≤ k := by omega
  have hfit : k < 2 ^ 63 := by omega
  rw [← hk]
  unfold setItem
  try with_reducible refine wpAny_holding ?_
  first | refine wpAny_bind (wpAny_pure ?_) | skip
  refine wpAny_bind (wpAny_sequenceKey hl.typeIs (by decide) ?_)
  refine wpAny_bind (wpAny_callSpecial?_slot (name := Str.ofString "__setitem__") hl.typeIs slot_list_setitem
    (wpAny_call_entry slot_list_setitem hl.typeIs entry_list_setitem ?_ (args_list_setitem _ _ _)))
  show wpAny _ _ (Builtin.List.listSubscript? (.int k t) >>= _) _ _ s
  refine wpAny_bind (wpAny_listSubscript_int (fitsIndex_of h0 hfit) ?_)
  clear hfit
  subst hk
  have hx' : xs.toArray[i]? = some xs[i] := by simp [hi]
  show wpAny _ _ ((seqItemAt l i >>= fun r => pure (r.map (i, ·))) >>= _) _ _ s
  refine wpAny_bind (wpAny_bind (wpAny_seqItemAt ho rfl (wpAny_pure ?_)))
  rw [hx']
  show wpAny _ _ (setSeqItemAt l i v >>= _) _ _ s
  have fin := plainUpd ho (fun its => its.setIfInBounds i v)
  have e1 : xs.toArray.setIfInBounds i v = (xs.set i v).toArray := by simp
  rw [e1] at fin
  refine wpAny_bind (wpAny_setSeqItemAt ho rfl ?_)
  first
    | exact wpAny_bind (wpAny_pure (wpAny_pure ⟨.none, rfl, wpAny_pure (h _ ⟨(Heap.SameBut.update ..).extBut, rfl, fun x => x⟩ fin)⟩))
    | exact wpAny_pure ⟨.none, rfl, wpAny_pure (h _ ⟨(Heap.SameBut.update ..).extBut, rfl, fun x => x⟩ fin)⟩
theorem oMod {a : Int} {n : Nat} (S : St C ρ τ σ s) (hn : 0 < n) (h : ∀ t s', St C ρ τ σ s' → Q (.int (a % n) t) s') : wpAny C.M A (binaryOp .Mod (.int a t) (.int (n : Nat) u)) Q E s :=
  mod_int' (by omega) (by rw [Int.fmod_eq_emod_of_nonneg a (by (with_reducible exact Int.natCast_nonneg _))]; exact h _ _ (S.tok _))
theorem oDiv {a : Int} {n : Nat} (S : St C ρ τ σ s) (hn : 0 < n) (hz : n < 1000000) (h : ∀ t s', St C ρ τ σ s' → Q (.int (a / n) t) s') : wpAny C.M A (binaryOp .FloorDiv (.int a t) (.int (n : Nat) u)) Q E s :=
  floordiv_int (by omega) (by rw [Int.fdiv_eq_ediv_of_nonneg a (by (with_reducible exact Int.natCast_nonneg _))]; exact h _ _ (S.tok _)) (.inl (PyProof.noPylong_small (by omega)))
theorem oAdd {a b : Int} (S : St C ρ τ σ s) (h : ∀ t s', St C ρ τ σ s' → Q (.int (a + b) t) s') : wpAny C.M A (binaryOp .Add (.int a t) (.int b u)) Q E s := wpAny_add_int (h _ _ (S.tok _))
theorem bIndex {ks : List Int} {k : Int} (S : St C ρ τ σ s) (hl : s.heap.PlainList l vs.toArray) (hi : IntsAre vs ks) (hk : k ∈ ks) (hz : vs.length ≤ Big) (h : ∀ t s', St C ρ τ σ s' → Q (.int (ks.idxOf k : Nat) t) s') :
    wpAny C.M A (call (.builtin "list.index") [.ref l, .int k t]) Q E s := by
  have hlen := hi.length
  have hj : ks.idxOf k < ks.length := List.idxOf_lt_length_iff.mpr hk
  have hz' : vs.length ≤ 100000 := hz
  obtain ⟨n, ho⟩ := hl
  refine call_meets PySem.F.slot_list_index ⟨_, ho, rfl⟩ PySem.F.entry_list_index (PySem.F.args_list_index_2 _ _)
    (SeqAt.list_indexAt l vs.toArray n none #[] (.int k t) (isInt k) (ks.idxOf k) (by simpa [hlen] using hj) (by omega) ?_ ?_) ⟨ho, fun y hy => (eq_isInt k t hi y (by simpa using hy)).at _ _, h _ _ (S.tok _)⟩
  · show isInt k vs[ks.idxOf k] = true
    rw [isInt_at k hi _ (by omega) hj]
    simp
  · intro m hm hmj
    have hm' : m < ks.length := by simpa [hlen] using hm
    show isInt k vs[m] = false
    rw [isInt_at k hi _ (by simpa using hm) hm']
    have := List.not_of_lt_findIdx (p := (· == k)) (xs := ks) (i := m) (by simpa [List.idxOf] using hmj)
    simpa using this
end
end Mine
end
section
open PySem
set_option Elab.async false
set_option linter.unusedVariables false
namespace Mine
open PySem (Sem Str Value Heap Obj Shared)
noncomputable def agetO (as : List (Nat × List Nat)) (k : Nat) : Option (List Nat) := (as.find? fun p => p.1 = k).map (·.2)
noncomputable def aget (as : List (Nat × List Nat)) (k : Nat) : List Nat := (agetO as k).getD []
noncomputable def aput (as : List (Nat × List Nat)) (k : Nat) (v : List Nat) : List (Nat × List Nat) :=
  if as.any (fun p => p.1 = k) then as.map (fun p => if p.1 = k then (p.1, v) else p) else as ++ [(k, v)]
noncomputable def aTurn (row : List Nat) (as : List (Nat × List Nat)) (k : Nat) : List (Nat × List Nat) :=
  match row[k]? with
  | some n => aput as n (aget as n ++ row.take k)
  | none => as
noncomputable def aRow (as : List (Nat × List Nat)) (row : List Nat) : List (Nat × List Nat) := (List.range row.length).foldl (aTurn row) as
noncomputable def aAll (rows : List (List Nat)) : List (Nat × List Nat) := rows.foldl aRow []
noncomputable def lHeads (rows : List (List Nat)) (order : List Nat) : List (List Nat) := rows.map fun r => (r.filter fun n => !order.contains n).take 1
noncomputable def lFree (as : List (Nat × List Nat)) (rows : List (List Nat)) (order : List Nat) : List Nat :=
  ((lHeads rows order).filterMap List.head?).filter fun h => decide ((aget as h).filter (fun o => !order.contains o) = [])
noncomputable def lGo (as : List (Nat × List Nat)) (rows : List (List Nat)) : Nat → List Nat → Option (List Nat)
  | 0, _ => none
  | n + 1, order => if order.length < as.length then
      match lFree as rows order with
      | [] => none
      | f :: _ => lGo as rows n (order ++ [f])
    else some order
noncomputable def lMerge (rows : List (List Nat)) : Option (List Nat) := lGo (aAll rows) rows ((aAll rows).length + 1) []
theorem aput_length (as : List (Nat × List Nat)) (k : Nat) (v : List Nat) : (aput as k v).length ≤ as.length + 1 := by
  unfold aput
  split
  · rw [List.length_map]; (with_reducible exact Nat.le_add_right _ _)
  · rw [List.length_append]; simp
theorem aput_mem {as : List (Nat × List Nat)} {k : Nat} {v : List Nat} {p : Nat × List Nat} (h : p ∈ aput as k v) : p.2 = v ∨ p ∈ as := by
  unfold aput at h
  split at h
  · obtain ⟨q, hq, e⟩ := List.mem_map.mp h
    split at e
    · exact .inl (by rw [← e])
    · exact .inr (by rw [← e]; exact hq)
  · rcases List.mem_append.mp h with h | h
    · exact .inr h
    · exact .inl (by rw [List.mem_singleton.mp h])
theorem agetO_mem {as : List (Nat × List Nat)} {k : Nat} {v : List Nat} (h : agetO as k = some v) : (k, v) ∈ as := by
  unfold agetO at h
  obtain ⟨p, hp, e⟩ := Option.map_eq_some_iff.mp h
  have h1 := List.mem_of_find?_eq_some hp
  have h2 : p.1 = k := by simpa using List.find?_some hp
  rw [← h2, ← e]; exact h1
noncomputable def aHas (as : List (Nat × List Nat)) (n : Nat) : Prop := ∃ p, p ∈ as ∧ p.1 = n
theorem aHas.get {as : List (Nat × List Nat)} {n : Nat} (h : aHas as n) : agetO as n ≠ none := by
  obtain ⟨p, hp, e⟩ := h
  unfold agetO
  intro q
  rw [Option.map_eq_none_iff, List.find?_eq_none] at q
  exact q p hp (by simpa using e)
theorem aHas.put {as : List (Nat × List Nat)} {n k : Nat} {v : List Nat} (h : aHas as n ∨ n = k) : aHas (aput as k v) n := by
  unfold aput
  by_cases q : as.any (fun p => p.1 = k) = true
  · rw [if_pos q]
    have h : aHas as n := by
      rcases h with h | h
      · exact h
      · obtain ⟨p, hp, e⟩ := List.any_eq_true.mp q
        exact ⟨p, hp, by rw [h]; simpa using e⟩
    obtain ⟨p, hp, e⟩ := h
    refine ⟨_, List.mem_map_of_mem hp, ?_⟩
    split
    · exact e
    · exact e
  · rw [if_neg q]
    rcases h with ⟨p, hp, e⟩ | h
    · exact ⟨p, List.mem_append_left _ hp, e⟩
    · exact ⟨(k, v), List.mem_append_right _ (.head _), h.symm⟩
theorem aHas.turns {row : List Nat} {n : Nat} : ∀ (l : List Nat) (as : List (Nat × List Nat)), (aHas as n ∨ ∃ k, k ∈ l ∧ row[k]? = some n) → aHas (l.foldl (aTurn row) as) n
  | [], as, h => h.elim id fun ⟨_, h, _⟩ => nomatch h
  | k :: l, as, h => by
    refine aHas.turns l (aTurn row as k) ?_
    unfold aTurn
    rcases h with h | ⟨j, hj, e⟩
    · left
      cases row[k]? with
      | none => exact h
      | some m => exact aHas.put (.inl h)
    · rcases List.mem_cons.mp hj with rfl | hj
      · left
        rw [e]
        exact aHas.put (.inr rfl)
      · exact .inr ⟨j, hj, e⟩
theorem aHas.rows {n : Nat} : ∀ (rows : List (List Nat)) (as : List (Nat × List Nat)), (aHas as n ∨ ∃ r, r ∈ rows ∧ n ∈ r) → aHas (rows.foldl aRow as) n
  | [], as, h => h.elim id fun ⟨_, h, _⟩ => nomatch h
  | r :: rows, as, h => by
    refine aHas.rows rows (aRow as r) ?_
    rcases h with h | ⟨q, hq, hn⟩
    · exact .inl (aHas.turns _ _ (.inl h))
    · rcases List.mem_cons.mp hq with rfl | hq
      · left
        obtain ⟨k, hk⟩ := List.mem_iff_getElem?.mp hn
        exact aHas.turns _ _ (.inr ⟨k, List.mem_range.mpr (List.getElem?_eq_some_iff.mp hk).1, hk⟩)
      · exact .inr ⟨q, hq, hn⟩
theorem aAll_has {rows : List (List Nat)} {r : List Nat} {n : Nat} (hr : r ∈ rows) (hn : n ∈ r) : agetO (aAll rows) n ≠ none := (aHas.rows rows [] (.inr ⟨r, hr, hn⟩)).get
end Mine
end
section
open PySem PySem.W PyProof.Rows PySem.Calls
set_option Elab.async false
set_option genSizeOf false
set_option genInjectivity false
set_option maxRecDepth 100000
set_option linter.unusedVariables false
set_option linter.unusedSimpArgs false
set_option maxHeartbeats 2000000
namespace Mine
open PySem (Sem Str Value Heap Obj Shared)
structure TextL (C : Cx) (a : Adr) : Prop where
  fMerge : FnAt C.K a.lMerge "_law_merge" (topF 16) .none
  fWalk : FnAt C.K a.lWalk "_law_walk" (topF 17) .none
  fOrders : FnAt C.K a.lOrders "_law_orders" (topF 18) .none
  fNumbers : FnAt C.K a.lNumbers "_law_numbers" (topF 19) .none
  fPlain : FnAt C.K a.lPlain "_law_plain" (topF 20) .none
  fLooks : FnAt C.K a.lLooks "_law_looks" (topF 21) .none
  fTurn : FnAt C.K a.lTurn "_law_turn" (topF 22) .none
noncomputable def RowsI (ρ : Wd) : List Addr → List (List Nat) → Prop
  | [], [] => True
  | l :: ls, r :: rs => (∃ vs, ρ l = some (.list vs) ∧ IL vs r) ∧ RowsI ρ ls rs
  | _, _ => False
theorem RowsI.len {ρ : Wd} : ∀ {ls : List Addr} {rs : List (List Nat)}, RowsI ρ ls rs → ls.length = rs.length
  | [], [], _ => rfl
  | _ :: _, _ :: _, h => congrArg (· + 1) h.2.len
theorem RowsI.get {ρ : Wd} : ∀ {ls : List Addr} {rs : List (List Nat)} {i : Nat} {l : Addr}, RowsI ρ ls rs → ls[i]? = some l → ∃ r vs, rs[i]? = some r ∧ ρ l = some (.list vs) ∧ IL vs r
  | _ :: _, r :: _, 0, _, h, e => by cases e; obtain ⟨⟨vs, a, b⟩, _⟩ := h; exact ⟨r, vs, rfl, a, b⟩
  | _ :: ls, _ :: rs, i + 1, l, h, e => RowsI.get (ls := ls) (rs := rs) (i := i) h.2 e
theorem RowsI.ext {ρ ρ' : Wd} : ∀ {ls : List Addr} {rs : List (List Nat)}, RowsI ρ ls rs → Ext ρ ρ' → RowsI ρ' ls rs
  | [], [], _, _ => trivial
  | _ :: ls, _ :: rs, h, x => ⟨let ⟨vs, a, b⟩ := h.1; ⟨vs, x _ _ a, b⟩, RowsI.ext (ls := ls) (rs := rs) h.2 x⟩
theorem RowsI.snoc {ρ : Wd} : ∀ {ls : List Addr} {rs : List (List Nat)} {l : Addr} {r : List Nat} {vs : List Value}, RowsI ρ ls rs → ρ l = some (.list vs) → IL vs r → RowsI ρ (ls ++ [l]) (rs ++ [r])
  | [], [], _, _, _, _, e, f => ⟨⟨_, e, f⟩, trivial⟩
  | _ :: ls, _ :: rs, _, _, _, h, e, f => ⟨h.1, RowsI.snoc (ls := ls) (rs := rs) h.2 e f⟩
noncomputable def AhAt (ρ : Wd) : List (Int × Value) → List (Nat × List Nat) → Prop
  | [], [] => True
  | p :: kvs, q :: as => (p.1 = (q.1 : Int) ∧ ∃ l vs, p.2 = .ref l ∧ ρ l = some (.list vs) ∧ IL vs q.2) ∧ AhAt ρ kvs as
  | _, _ => False
theorem AhAt.len {ρ : Wd} : ∀ {kvs : List (Int × Value)} {as : List (Nat × List Nat)}, AhAt ρ kvs as → kvs.length = as.length
  | [], [], _ => rfl
  | _ :: _, _ :: _, h => congrArg (· + 1) h.2.len
theorem AhAt.ext {ρ ρ' : Wd} : ∀ {kvs : List (Int × Value)} {as : List (Nat × List Nat)}, AhAt ρ kvs as → Ext ρ ρ' → AhAt ρ' kvs as
  | [], [], _, _ => trivial
  | _ :: kvs, _ :: as, h, x => ⟨⟨h.1.1, let ⟨l, vs, a, b, c⟩ := h.1.2; ⟨l, vs, a, x _ _ b, c⟩⟩, AhAt.ext (kvs := kvs) (as := as) h.2 x⟩
theorem AhAt.get {ρ : Wd} {n : Nat} : ∀ {kvs : List (Int × Value)} {as : List (Nat × List Nat)}, AhAt ρ kvs as →
    (agetO as n = none ∧ valueAt kvs (n : Int) = none) ∨ ∃ ns l vs, agetO as n = some ns ∧ valueAt kvs (n : Int) = some (.ref l) ∧ ρ l = some (.list vs) ∧ IL vs ns
  | [], [], _ => .inl ⟨rfl, rfl⟩
  | (k, v) :: kvs, (j, ms) :: as, h => by
    obtain ⟨⟨h1, l, vs, h2, h3, h4⟩, h5⟩ := h
    dsimp only at h1 h2 h4
    by_cases q : j = n
    · right
      subst q
      exact ⟨ms, l, vs, by simp [agetO], by simp [valueAt, h1, h2], h3, h4⟩
    · have q' : ¬ k = (n : Int) := by omega
      have e1 : agetO ((j, ms) :: as) n = agetO as n := by simp [agetO, q]
      have e2 : valueAt ((k, v) :: kvs) (n : Int) = valueAt kvs (n : Int) := by simp [valueAt, q']
      rw [e1, e2]
      exact AhAt.get h5
theorem AhAt.any {ρ : Wd} {n : Nat} : ∀ {kvs : List (Int × Value)} {as : List (Nat × List Nat)}, AhAt ρ kvs as → kvs.any (fun kv => kv.1 = (n : Int)) = as.any fun p => p.1 = n
  | [], [], _ => rfl
  | p :: kvs, q :: as, h => by
    rw [List.any_cons, List.any_cons, AhAt.any h.2, h.1.1]
    congr 1
    exact decide_eq_decide.mpr (by omega)
theorem AhAt.map {ρ : Wd} {n : Nat} {l : Addr} {vs : List Value} {ns : List Nat} (e : ρ l = some (.list vs)) (f : IL vs ns) : ∀ {kvs : List (Int × Value)} {as : List (Nat × List Nat)}, AhAt ρ kvs as →
    AhAt ρ (kvs.map fun kv => if kv.1 = (n : Int) then (kv.1, .ref l) else kv) (as.map fun p => if p.1 = n then (p.1, ns) else p)
  | [], [], _ => trivial
  | p :: kvs, q :: as, h => by
    rw [List.map_cons, List.map_cons]
    refine ⟨?_, AhAt.map e f h.2⟩
    by_cases w : q.1 = n
    · rw [if_pos w, if_pos (by rw [h.1.1]; omega)]
      exact ⟨h.1.1, l, vs, rfl, e, f⟩
    · rw [if_neg w, if_neg (by rw [h.1.1]; omega)]
      exact h.1
theorem AhAt.app {ρ : Wd} {n : Nat} {l : Addr} {vs : List Value} {ns : List Nat} (e : ρ l = some (.list vs)) (f : IL vs ns) : ∀ {kvs : List (Int × Value)} {as : List (Nat × List Nat)}, AhAt ρ kvs as →
    AhAt ρ (kvs ++ [((n : Int), .ref l)]) (as ++ [(n, ns)])
  | [], [], _ => ⟨⟨rfl, l, vs, rfl, e, f⟩, trivial⟩
  | _ :: kvs, _ :: as, h => ⟨h.1, AhAt.app e f h.2⟩
theorem AhAt.put {ρ : Wd} {n : Nat} {l : Addr} {vs : List Value} {ns : List Nat} {kvs : List (Int × Value)} {as : List (Nat × List Nat)} (h : AhAt ρ kvs as) (e : ρ l = some (.list vs)) (f : IL vs ns) : AhAt ρ (stored kvs (n : Int) (.ref l)) (aput as n ns) := by
  unfold stored aput
  rw [h.any]
  split
  · exact AhAt.map e f h
  · exact AhAt.app e f h
noncomputable def AhB (c : Nat) (as : List (Nat × List Nat)) : Prop := as.length ≤ c ∧ ∀ p, p ∈ as → p.2.length ≤ 10 * c
theorem AhB.get {c n : Nat} {as : List (Nat × List Nat)} (h : AhB c as) : (aget as n).length ≤ 10 * c := by
  unfold aget
  cases q : agetO as n with
  | none => exact Nat.zero_le _
  | some v => exact h.2 _ (agetO_mem q)
theorem AhB.put {c n : Nat} {as : List (Nat × List Nat)} {v : List Nat} (h : AhB c as) (hv : v.length ≤ 10 * c + 10) : AhB (c + 1) (aput as n v) := by
  refine ⟨Nat.le_trans (aput_length ..) (by have := h.1; (with_reducible exact Nat.succ_le_succ ‹_›)), fun p hp => ?_⟩
  rcases aput_mem hp with e | hp
  · rw [e]; omega
  · have := h.2 p hp; omega
structure LmS where
  m : Mp
  ρ : Wd
  kvs : List (Int × Value)
  as : List (Nat × List Nat)
section
variable {C : Cx} {a : Adr} {ρ : Wd} {τ σ : Lc} {s : Shared} {A : Around} {E : Value → Shared → Prop} {Q : Flow → Shared → Prop} {R : Result → Shared → Prop}
noncomputable abbrev lmE (L : Addr) (a : Adr) (cdv : Value) : Env := envX "_law_merge" (topF 16).scope L a.lMerge cdv (cellsFrom (L + 1) (topF 16).scope.names [])
structure LmP (lr : Addr) (ρ : Wd) (rows : List (List Nat)) (i : Nat) (y : LmS) : Prop where
  f1 : y.m "rows" = some (.ref lr)
  f2 : Ext ρ y.ρ
  f3 : AhAt y.ρ y.kvs y.as
  f4 : y.as = (rows.take i).foldl aRow []
  f5 : AhB (10 * i) y.as
structure LmQ (lr l : Addr) (ρ : Wd) (row : List Nat) (ai : List (Nat × List Nat)) (i : Nat) (k : Nat) (y : LmS) : Prop where
  f1 : y.m "rows" = some (.ref lr)
  f2 : y.m "row" = some (.ref l)
  f3 : Ext ρ y.ρ
  f4 : AhAt y.ρ y.kvs y.as
  f5 : y.as = ((List.range row.length).take k).foldl (aTurn row) ai
  f6 : AhB (10 * i + k) y.as
theorem lm_ahead (T : Text C a) {L da lr : Addr} {cdv : Value} {m0 : Mp} {ls : List Addr} {rows : List (List Nat)} (S : St C ρ τ [(L, .fr "frame" m0), (L + 1, .cell (some (.ref da))), (L + 2, .cell none), (da, .idict [])] s) (q1 : m0 "rows" = some (.ref lr))
    (hlr : ρ lr = some (.list (adrs ls))) (hR : RowsI ρ ls rows) (hz : rows.length ≤ 10) (hz2 : ∀ r, r ∈ rows → r.length ≤ 10) (hh : A.handled = none)
    (hOk : ∀ m' ρ' kvs s', m' "rows" = some (.ref lr) → Ext ρ ρ' → AhAt ρ' kvs (aAll rows) → AhB 100 (aAll rows) → St C ρ' τ [(L, .fr "frame" m'), (L + 1, .cell (some (.ref da))), (L + 2, .cell none), (da, .idict kvs)] s' → Q .next s') :
    wpAny C.M A (exec (nthS (topF 16).body 1) (lmE L a cdv)) Q E s := by
  refine xFor (ldL S rfl q1 (itList S (S.o hlr) fun I s' S _ => ?_))
  refine forLoop_t (α := LmS) (τ := τ) (E' := fun _ _ => False) (Wk.list hh I lr (adrs ls)) (fun y => y.ρ) (fun y => [(L, .fr "frame" y.m), (L + 1, .cell (some (.ref da))), (L + 2, .cell none), (da, .idict y.kvs)])
    (LmP lr ρ rows) noE ?_ ⟨m0, ρ, [], []⟩ S ⟨q1, .refl _, trivial, rfl, ⟨Nat.le_refl _, fun p hp => nomatch hp⟩⟩ ?_ ?_
  · intro i y _ s P S; exact S.o (P.f2 _ _ hlr)
  · rintro i Qb Eb hQb hEb hRb ⟨mi, ρi, ki, ai⟩ v s hv ⟨p1, p2, p3, p4, p5⟩ S
    dsimp only at p1 p2 p3 p4 p5 S
    obtain ⟨l, hl, rfl⟩ : ∃ l, ls[i]? = some l ∧ v = .ref l := by
      rw [List.getElem?_map, Option.map_eq_some_iff] at hv
      obtain ⟨x, e, w⟩ := hv; exact ⟨x, e, w.symm⟩
    obtain ⟨row, vs, hrow, el, hvs⟩ := hR.get hl
    have hi10 : i < 10 := Nat.lt_of_lt_of_le (List.getElem?_eq_some_iff.mp hrow).1 hz
    have hr10 := hz2 row (List.mem_of_getElem? hrow)
    have hvl : vs.length = row.length := hvs.len
    have hvz : vs.length ≤ Big := by rw [hvl]; exact Nat.le_trans hr10 (by decide)
    refine wpAny_of_eq (a := ()) rfl (wpAny_assign_Name (stL S rfl fun s' S => ?_))
    refine pk3 (P1 := fun (m1 : Mp) => St C ρi ((I, litO lr (i + 1)) :: τ) [(L, .fr "frame" m1), (L + 1, .cell (some (.ref da))), (L + 2, .cell none), (da, .idict ki)] s') (P2 := fun (m1 : Mp) => m1 "rows" = some (.ref lr)) (P3 := fun (m1 : Mp) => m1 "row" = some (.ref l)) (mi.put "row" (.ref l)) (S) (p1) (rfl) fun m1 S p1 p6 => ?_
    refine xcons (xFor (Call_ (ldB S (T.nog _ rfl) rfl (cwT (Call_ (ldB S (T.nog _ rfl) rfl (cwB (ldL S rfl p6 (xLen S (S.o (p2 _ _ el)) hvz fun t s' S => xRange S (by omega) fun I2 s' S => ?_)))))))))
    refine forP_t (α := LmS) (τ := (I, litO lr (i + 1)) :: τ) (E' := fun _ _ => False) (Wp.range hh I2 0 1 vs.length) (fun y => y.ρ) (fun y => [(L, .fr "frame" y.m), (L + 1, .cell (some (.ref da))), (L + 2, .cell none), (da, .idict y.kvs)])
      (LmQ lr l ρ row ai i) noE (fun _ _ _ _ _ _ => trivial) ⟨m1, ρi, ki, ai⟩ S ⟨p1, p6, p2, p3, rfl, p5⟩ ?_ ?_
    · rintro k Qb2 Eb2 hQb2 hEb2 hRb ⟨mk, ρk, kk, ak⟩ v s hk ⟨tk, rfl⟩ ⟨u1, u2, u3, u4, u5, u6⟩ S
      dsimp only at u1 u2 u3 u4 u5 u6 S
      have hk' : k < row.length := by rw [← hvl]; exact hk
      obtain ⟨n, hn⟩ : ∃ n, row[k]? = some n := ⟨_, List.getElem?_eq_getElem hk'⟩
      have ek : ((0 : Int) + (k : Int) * 1) = ((k : Nat) : Int) := by omega
      rw [ek]
      refine wpAny_of_eq (a := ()) rfl (wpAny_assign_Name (stL S rfl fun s' S => ?_))
      refine pk4 (P1 := fun (m2 : Mp) => St C ρk ((I2, rgI 0 1 vs.length (k + 1)) :: (I, litO lr (i + 1)) :: τ) [(L, .fr "frame" m2), (L + 1, .cell (some (.ref da))), (L + 2, .cell none), (da, .idict kk)] s') (P2 := fun (m2 : Mp) => m2 "rows" = some (.ref lr)) (P3 := fun (m2 : Mp) => m2 "row" = some (.ref l)) (P4 := fun (m2 : Mp) => m2 "k" = some (.int (k : Nat) tk)) (mk.put "k" (.int (k : Nat) tk)) (S) (u1) (u2) (rfl) fun m2 S u1 u2 u7 => ?_
      have elk := u3 _ _ el
      refine xcons (wpAny_Assign_Subscript (xBin (xMeth (ldC S 1 rfl (gDGet (S.at 3 rfl) (cwB (xSub (ldL S rfl u2 (ldL S rfl u7 (sIdxI (S.o elk) hvs hn hvz fun t1 => ?_))))))))))
      refine eList ⟨_, _, _, S, Nat.zero_le _, fun l0 s' S => bDGet2 S (S.at 3 rfl) fun s' S => ?_⟩
      obtain ⟨la, va, e1, hla, hva, hsz⟩ : ∃ la va, (valueAt kk (n : Int)).getD (.ref l0) = .ref la ∧ (∀ {τ' σ'} {s : Shared}, St C ρk τ' ([(L, .fr "frame" m2), (L + 1, .cell (some (.ref da))), (L + 2, .cell none), (da, .idict kk)] ++ [(l0, .list [])] ++ σ') s → s.heap.PlainList la va.toArray) ∧ IL va (aget ak n) ∧ va.length ≤ 10 * (10 * i + k) := by
        rcases u4.get (n := n) with ⟨h1, h2⟩ | ⟨ms, la, va, h1, h2, h3, h4⟩
        · refine ⟨l0, [], by rw [h2]; rfl, fun S => S.at 4 rfl, by unfold aget; rw [h1]; exact IL.nil, Nat.zero_le _⟩
        · refine ⟨la, va, by rw [h2]; rfl, fun S => S.o h3, by unfold aget; rw [h1]; exact h4, ?_⟩
          have := u6.get (n := n)
          unfold aget at this
          rw [h1] at this
          rw [h4.len]; exact this
      rw [e1]
      refine xSub (ldL S rfl u2 (wpAny_Slice (wpAny_pure (ldL S rfl u7 (wpAny_pure ?_)))))
      refine sUpto S (S.o elk) hvz fun r1 s' S => ?_
      refine oAddL S (hla (σ' := [(r1, .list (vs.take k))]) S) (S.at 5 rfl) (by rw [List.length_take]; show va.length + min k vs.length ≤ 100000; omega) fun r2 s' S => ?_
      have hva2 : IL (va ++ vs.take k) (aget ak n ++ row.take k) := hva.app (hvs.take k)
      refine ldC S 1 rfl (xSub (ldL S rfl u2 (ldL S rfl u7 (sIdxI (S.o elk) hvs hn hvz fun t3 => ?_))))
      have hkk : kk.length ≤ 100 := by rw [u4.len]; have := u6.1; omega
      refine hDSet (S.at 3 rfl) (Nat.le_trans hkk (by decide)) fun s' cg tt => ?_
      have S := S.setL 3 rfl cg tt
      have nr := S.none_of_nth 6 rfl
      have S := S.give 6 rfl
      have x1 : Ext ρk (upd ρk r2 (.list (va ++ vs.take k))) := ext_upd _ nr
      have er : upd ρk r2 (.list (va ++ vs.take k)) r2 = some (.list (va ++ vs.take k)) := upd_self ..
      refine wpAny_execs_nil (hQb2 ⟨m2, _, _, aput ak n (aget ak n ++ row.take k)⟩ _ ⟨u1, u2, u3.trans x1, (u4.ext x1).put er hva2, ?_, ?_⟩ (S.sub (List.Sublist.append (List.Sublist.cons_cons _ (List.Sublist.cons_cons _ (List.Sublist.cons_cons _ (List.Sublist.cons_cons _ (List.nil_sublist _))))) (.refl _))))
      · show aput ak n (aget ak n ++ row.take k) = _
        rw [List.take_add_one, List.getElem?_range hk', List.foldl_append, ← u5]
        show _ = aTurn row ak k
        unfold aTurn; rw [hn]
      · have : (aget ak n ++ row.take k).length ≤ 10 * (10 * i + k) + 10 := by
          have := u6.get (n := n)
          rw [List.length_append, List.length_take]; omega
        exact u6.put this
    · rintro ⟨mk, ρk, kk, ak⟩ s ⟨u1, u2, u3, u4, u5, u6⟩ S
      dsimp only at u1 u2 u3 u4 u5 u6 S
      refine wpAny_execs_nil (wpAny_execs_nil (hQb ⟨mk, ρk, kk, ak⟩ _ ⟨u1, u3, u4, ?_, ⟨?_, ?_⟩⟩ S))
      · show ak = _
        rw [List.take_add_one, hrow, List.foldl_append, ← p4, u5, hvl]
        show _ = aRow ai row
        unfold aRow
        rw [List.take_of_length_le (by rw [List.length_range]; exact Nat.le_refl _)]
      · have := u6.1; show ak.length ≤ 10 * (i + 1); omega
      · intro p hp; have := u6.2 p hp; omega
  · rintro ⟨mi, ρi, ki, ai⟩ s ⟨p1, p2, p3, p4, p5⟩ S
    dsimp only at p1 p2 p3 p4 p5 S
    have hlen : (adrs ls).length = rows.length := by rw [List.length_map, hR.len]
    have e : ai = aAll rows := by rw [p4, hlen, List.take_length]; rfl
    subst e
    refine wpAny_execs_nil (hOk mi ρi ki s p1 p2 p3 ⟨?_, ?_⟩ S)
    · have := p5.1; omega
    · intro p hp; have := p5.2 p hp; omega
end
end Mine
end
section
open PySem PySem.W PyProof.Rows PySem.Calls
set_option Elab.async false
set_option genSizeOf false
set_option genInjectivity false
set_option maxRecDepth 100000
set_option linter.unusedVariables false
set_option linter.unusedSimpArgs false
set_option maxHeartbeats 4000000
namespace Mine
open PySem (Sem Str Value Heap Obj Shared)
structure LwS where
  m : Mp
  ρ : Wd
  vo : List Value
  order : List Nat
  n : Nat
section
variable {C : Cx} {a : Adr} {ρ : Wd} {τ σ : Lc} {s : Shared} {A : Around} {E : Value → Shared → Prop} {Q : Flow → Shared → Prop} {R : Result → Shared → Prop}
noncomputable abbrev lmσ (L da lo : Addr) (kvs : List (Int × Value)) (vo : List Value) : Lc := [(L + 1, .cell (some (.ref da))), (L + 2, .cell (some (.ref lo))), (da, .idict kvs), (lo, .list vo)]
theorem lm_heads (T : Text C a) {L da lr lo : Addr} {cdv : Value} {m0 : Mp} {ls : List Addr} {rows : List (List Nat)} {kvs : List (Int × Value)} {vo : List Value} {order : List Nat} (S : St C ρ τ ((L, .fr "frame" m0) :: lmσ L da lo kvs vo) s) (q1 : m0 "rows" = some (.ref lr))
    (hlr : ρ lr = some (.list (adrs ls))) (hR : RowsI ρ ls rows) (hz : rows.length ≤ 10) (hz2 : ∀ r, r ∈ rows → r.length ≤ 10) (hvo : IL vo order) (hh : A.handled = none)
    (hOk : ∀ ρ' lh hs s', Ext ρ ρ' → RowsI ρ' hs (lHeads rows order) → St C ρ' τ ((L, .fr "frame" (m0.put "heads" (.ref lh))) :: lmσ L da lo kvs vo ++ [(lh, .list (adrs hs))]) s' → Q .next s') :
    ∀ tgt cmp p, nthS (clsBody (nthS (topF 16).body 3)) 0 = .Assign [tgt] cmp p → wpAny C.M A (exec (.Assign [tgt] cmp p) (lmE L a cdv)) Q E s := by
  intro tgt cmp p hp
  cases hp
  refine assignComp_st (τ := τ) (α := Wd × List Addr) (fun y => y.1) (fun _ => m0) (fun _ => lmσ L da lo kvs vo)
    (fun i y ys => Ext ρ y.1 ∧ ys = adrs y.2 ∧ RowsI y.1 y.2 (lHeads (rows.take i) order)) rfl rfl rfl rfl (by rfl) rfl ?_
  refine ldL S rfl q1 (itList S (S.o hlr) fun I s' S _ => ⟨I, _, adrs ls, _, (ρ, []), rfl, Wk.list hh I lr (adrs ls), ?_, S, ⟨.refl _, rfl, trivial⟩, ?_, ?_, ?_⟩)
  · rw [List.length_map, hR.len]; exact Nat.le_trans hz (by decide)
  · rintro i ⟨ρi, li⟩ ys τ' σ' s ⟨x1, _⟩ S; exact S.o (x1 _ _ hlr)
  · rintro i ⟨ρi, li⟩ v ys Lc D mc s hv ⟨x1, hys, hrs⟩ hmv S
    dsimp only at x1 hys hrs S
    obtain ⟨l, hl, rfl⟩ : ∃ l, ls[i]? = some l ∧ v = .ref l := by
      rw [List.getElem?_map, Option.map_eq_some_iff] at hv
      obtain ⟨x, e, w⟩ := hv; exact ⟨x, e, w.symm⟩
    obtain ⟨row, vs, hrow, el, hvs⟩ := hR.get hl
    have hr10 := hz2 row (List.mem_of_getElem? hrow)
    have hvz : vs.length ≤ Big := by rw [hvs.len]; exact Nat.le_trans hr10 (by decide)
    refine tests_nil ?_
    rw [if_pos rfl]
    refine xSub (listComp_st (τ := (D, .list ys) :: (I, litO lr (i + 1)) :: τ) (α := Unit) (E' := fun _ _ => False) (fun _ => ρi) (fun _ => (Lc, .fr "dict" mc) :: (L, .fr "frame" m0) :: lmσ L da lo kvs vo)
      (fun k _ ys => IL ys ((row.take k).filter fun n => !order.contains n)) rfl (by rfl) rfl (fun _ _ _ f => f.elim) ?_)
    refine ldL S rfl hmv (itList S (S.o (x1 _ _ el)) fun I2 s' S _ => ⟨I2, _, vs, _, (), rfl, Wk.list hh I2 l vs, hvz, S, IL.nil, ?_, ?_, ?_⟩)
    · rintro k _ ys τ' σ' s _ S; exact S.o (x1 _ _ el)
    · rintro k _ v ys2 L2 D2 m2 s hv2 hys2 hmv2 S
      obtain ⟨n, t, rfl, hn⟩ := hvs.get hv2
      have htk : row.take (k + 1) = row.take k ++ [n] := by rw [List.take_add_one, hn]; rfl
      refine tests_one (xCmp (ldL S rfl hmv2 (ldC S 4 rfl (nInI (S.at 6 rfl) hvo (wpAny_truthy_bool ?_)))))
      by_cases hc : order.contains n = true
      · rw [hc, if_neg (show ¬ ((!true) = true) from Bool.false_ne_true)]
        refine ⟨(), ?_, S⟩
        rw [htk, List.filter_append]
        have : [n].filter (fun n => !order.contains n) = [] := by simp only [List.filter_cons, hc]; rfl
        rw [this, List.append_nil]; exact hys2
      · rw [Bool.not_eq_true] at hc
        rw [hc, if_pos (show (!false) = true from rfl)]
        refine ldL S rfl hmv2 ⟨(), ?_, S⟩
        rw [htk, List.filter_append]
        have : [n].filter (fun n => !order.contains n) = [n] := by simp only [List.filter_cons, hc]; rfl
        rw [this]; exact hys2.app (IL.one n t)
    · rintro _ ys2 D2 s hys2 S
      have hys2 : IL ys2 (row.filter fun n => !order.contains n) := by rw [hvs.len, List.take_length] at hys2; exact hys2
      have hz3 : ys2.length ≤ Big := by rw [hys2.len]; exact Nat.le_trans (List.length_filter_le ..) (Nat.le_trans hr10 (by decide))
      refine wpAny_Slice (wpAny_pure ?_)
      rw [evalPart_some]
      refine cInt (i := 1) S fun t s' S => wpAny_pure ?_
      refine sUpto (k := 1) S (S.at 6 rfl) hz3 fun r3 s' S => ?_
      have nr := S.none_of_nth 7 rfl
      have S := S.give 7 rfl
      have x3 : Ext ρi (upd ρi r3 (.list (ys2.take 1))) := ext_upd _ nr
      refine ⟨(upd ρi r3 (.list (ys2.take 1)), li ++ [r3]), ⟨x1.trans x3, ?_, ?_⟩, S.sub (List.Sublist.append (List.Sublist.cons_cons _ (List.Sublist.cons_cons _ (List.Sublist.cons_cons _ (List.Sublist.cons_cons _ (List.Sublist.cons_cons _ (List.Sublist.cons_cons _ (List.nil_sublist _))))))) (.refl _))⟩
      · rw [hys]; simp [adrs]
      · show RowsI _ (li ++ [r3]) (lHeads (rows.take (i + 1)) order)
        rw [show rows.take (i + 1) = rows.take i ++ [row] from by rw [List.take_add_one, hrow]; rfl]
        unfold lHeads
        rw [List.map_append]
        exact (hrs.ext x3).snoc (upd_self ..) (hys2.take 1)
  · rintro ⟨ρi, li⟩ ys D s ⟨x1, hys, hrs⟩ S
    dsimp only at x1 hys hrs S
    have hlen : (adrs ls).length = rows.length := by rw [List.length_map, hR.len]
    rw [hlen, List.take_length] at hrs
    subst hys
    exact hOk ρi D li s x1 hrs S
end
end Mine
end
section
open PySem PySem.W PyProof.Rows PySem.Calls
set_option Elab.async false
set_option maxRecDepth 100000
set_option linter.unusedVariables false
set_option linter.unusedSimpArgs false
set_option maxHeartbeats 4000000
namespace Mine
open PySem (Sem Str Value Heap Obj Shared)
noncomputable abbrev whBody : Stmt → List Stmt := clsBody
noncomputable def frOf (as : List (Nat × List Nat)) (order : List Nat) (heads : List (List Nat)) : List Nat :=
  (heads.filterMap List.head?).filter fun h => decide ((aget as h).filter (fun o => !order.contains o) = [])
section
variable {C : Cx} {a : Adr} {ρ : Wd} {τ σ : Lc} {s : Shared} {A : Around} {E : Value → Shared → Prop} {Q : Flow → Shared → Prop} {R : Result → Shared → Prop}
theorem lm_free (T : Text C a) {L da lh lo : Addr} {cdv : Value} {m0 : Mp} {hs : List Addr} {heads : List (List Nat)} {as : List (Nat × List Nat)} {kvs : List (Int × Value)} {vo : List Value} {order : List Nat} (S : St C ρ τ ((L, .fr "frame" m0) :: lmσ L da lo kvs vo) s) (q1 : m0 "heads" = some (.ref lh))
    (hlh : ρ lh = some (.list (adrs hs))) (hR : RowsI ρ hs heads) (hz : heads.length ≤ 10) (hz2 : ∀ r, r ∈ heads → r.length ≤ 1 ∧ ∀ n, n ∈ r → agetO as n ≠ none) (hA : AhAt ρ kvs as) (hB : AhB 100 as) (hvo : IL vo order) (r : Rm A 1) (hh : A.handled = none)
    (hOk : ∀ lf vf s', IL vf (frOf as order heads) → St C ρ τ ((L, .fr "frame" (m0.put "free" (.ref lf))) :: lmσ L da lo kvs vo ++ [(lf, .list vf)]) s' → Q .next s') :
    wpAny C.M A (exec (nthS (whBody (nthS (topF 16).body 3)) 1) (lmE L a cdv)) Q E s := by
  refine assignComp_st (τ := τ) (α := Unit) (fun _ => ρ) (fun _ => m0) (fun _ => lmσ L da lo kvs vo)
    (fun i _ ys => IL ys (frOf as order (heads.take i))) rfl rfl rfl rfl (by rfl) rfl ?_
  refine ldL S rfl q1 (itList S (S.o hlh) fun I s' S _ => ⟨I, _, adrs hs, _, (), rfl, Wk.list hh I lh (adrs hs), ?_, S, IL.nil, ?_, ?_, ?_⟩)
  · rw [List.length_map, hR.len]; exact Nat.le_trans hz (by decide)
  · rintro i _ ys τ' σ' s _ S; exact S.o hlh
  · rintro i _ v ys Lc D mc s hv hys hmv S
    obtain ⟨l, hl, rfl⟩ : ∃ l, hs[i]? = some l ∧ v = .ref l := by
      rw [List.getElem?_map, Option.map_eq_some_iff] at hv
      obtain ⟨x, e, w⟩ := hv; exact ⟨x, e, w.symm⟩
    obtain ⟨hd, vh, hhd, el, hvh⟩ := hR.get hl
    have hd1 := hz2 hd (List.mem_of_getElem? hhd)
    have hvz : vh.length ≤ Big := by rw [hvh.len]; exact Nat.le_trans hd1.1 (by decide)
    have htk : heads.take (i + 1) = heads.take i ++ [hd] := by rw [List.take_add_one, hhd]; rfl
    have hfr : frOf as order (heads.take (i + 1)) = frOf as order (heads.take i) ++ frOf as order [hd] := by
      rw [htk]; unfold frOf; rw [List.filterMap_append, List.filter_append]
    refine tests_one (isTrue_and (isTrue_plain (ldL S rfl hmv (tList S (S.o el) hvz fun s' S => ?_))))
    cases hd with
    | nil =>
      have : vh = [] := by have := hvh.len; exact List.length_eq_zero_iff.mp this
      subst this
      rw [show (!([] : List Value).isEmpty) = false from rfl, if_neg Bool.false_ne_true, if_neg Bool.false_ne_true]
      refine ⟨(), ?_, S⟩
      rw [hfr]
      show IL ys (frOf as order (heads.take i) ++ [])
      rw [List.append_nil]; exact hys
    | cons n rest =>
      have hrest : rest = [] := by
        have := hd1.1
        rw [List.length_cons] at this
        exact List.length_eq_zero_iff.mp (by omega)
      subst hrest
      have hvne : (!vh.isEmpty) = true := by
        have := hvh.len
        cases vh with
        | nil => cases this
        | cons _ _ => rfl
      rw [hvne, if_pos rfl]
      have hn0 : ([n] : List Nat)[0]? = some n := rfl
      obtain ⟨ns, la, va, h1, h2, h3, h4⟩ := (hA.get (n := n)).resolve_left fun q => hd1.2 n (.head _) q.1
      have hag : aget as n = ns := by unfold aget; rw [h1]; rfl
      have hal := hB.get (n := n)
      rw [hag] at hal
      have hvaz : va.length ≤ Big := by rw [h4.len]; exact Nat.le_trans hal (by decide)
      refine isTrue_and (xCmp ?_)
      refine listComp_st (τ := (D, .list ys) :: (I, litO lh (i + 1)) :: τ) (α := Unit) (E' := fun _ _ => False) (fun _ => ρ) (fun _ => (Lc, .fr "dict" mc) :: (L, .fr "frame" m0) :: lmσ L da lo kvs vo)
        (fun k _ ys => IL ys ((ns.take k).filter fun o => !order.contains o)) rfl (by rfl) rfl (fun _ _ _ f => f.elim) ?_
      refine xSub (ldC S 2 rfl (xSub (ldL S rfl hmv ?_)))
      refine cInt (i := 0) S fun t s' S => sIdxI (i := 0) (S.o el) hvh hn0 hvz fun t2 => sDGet S (S.at 4 rfl) h2 fun s' S => ?_
      refine itList S (S.o h3) fun I2 s' S _ => ⟨I2, _, va, _, (), rfl, Wk.list hh I2 la va, hvaz, S, IL.nil, ?_, ?_, ?_⟩
      · rintro k _ ys τ' σ' s _ S; exact S.o h3
      · rintro k _ v ys2 L2 D2 m2 s hv2 hys2 hmv2 S
        obtain ⟨o, t, rfl, ho⟩ := h4.get hv2
        have htk : ns.take (k + 1) = ns.take k ++ [o] := by rw [List.take_add_one, ho]; rfl
        refine tests_one (xCmp (ldL S rfl hmv2 (ldC S 4 rfl (nInI (S.at 6 rfl) hvo (wpAny_truthy_bool ?_)))))
        by_cases hc : order.contains o = true
        · rw [hc, if_neg (show ¬ ((!true) = true) from Bool.false_ne_true)]
          refine ⟨(), ?_, S⟩
          rw [htk, List.filter_append]
          have : [o].filter (fun n => !order.contains n) = [] := by simp only [List.filter_cons, hc]; rfl
          rw [this, List.append_nil]; exact hys2
        · rw [Bool.not_eq_true] at hc
          rw [hc, if_pos (show (!false) = true from rfl)]
          refine ldL S rfl hmv2 ⟨(), ?_, S⟩
          rw [htk, List.filter_append]
          have : [o].filter (fun n => !order.contains n) = [o] := by simp only [List.filter_cons, hc]; rfl
          rw [this]; exact hys2.app (IL.one o t)
      · rintro _ ys2 D2 s hys2 S
        have hys2 : IL ys2 (ns.filter fun o => !order.contains o) := by rw [h4.len, List.take_length] at hys2; exact hys2
        have hu : A.units + 64 < cLine := by
          have := r.2
          have h3 : (9900 : Nat) ≤ cLine := by decide
          omega
        refine eList ⟨_, _, _, S, Nat.zero_le _, fun l0 s' S => eqI (S.at 6 rfl) (S.at 7 rfl) hys2 IL.nil hu (wpAny_truthy_bool ?_)⟩
        have S : St C ρ ((D, .list ys) :: (I, litO lh (i + 1)) :: τ) ((Lc, .fr "dict" mc) :: (L, .fr "frame" m0) :: lmσ L da lo kvs vo) s' := S.sub (List.Sublist.append (List.Sublist.cons_cons _ (List.Sublist.cons_cons _ (List.Sublist.cons_cons _ (List.Sublist.cons_cons _ (List.Sublist.cons_cons _ (List.Sublist.cons_cons _ (List.nil_sublist _))))))) (.refl _))
        have hone : frOf as order [[n]] = if decide (ns.filter (fun o => !order.contains o) = []) = true then [n] else [] := by
          unfold frOf
          show List.filter _ [n] = _
          rw [List.filter_cons, hag]; rfl
        by_cases hc : ns.filter (fun o => !order.contains o) = []
        · rw [decide_eq_true hc, if_pos rfl]
          refine isTrue_and_nil ?_
          rw [if_pos rfl]
          refine xSub (ldL S rfl hmv ?_)
          refine cInt (i := 0) S fun t s' S => sIdxI (i := 0) (S.o el) hvh hn0 hvz fun t2 => ⟨(), ?_, S⟩
          rw [hfr, hone, decide_eq_true hc, if_pos rfl]
          exact hys.app (IL.one n t2)
        · rw [decide_eq_false hc, if_neg Bool.false_ne_true, if_neg Bool.false_ne_true]
          refine ⟨(), ?_, S⟩
          rw [hfr, hone, decide_eq_false hc, if_neg Bool.false_ne_true, List.append_nil]; exact hys
  · rintro _ ys D s hys S
    have hlen : (adrs hs).length = heads.length := by rw [List.length_map, hR.len]
    rw [hlen, List.take_length] at hys
    exact hOk D ys s hys S
end
end Mine
end
section
open PySem PySem.W PyProof.Rows PySem.Calls
set_option Elab.async false
set_option maxRecDepth 100000
set_option linter.unusedVariables false
set_option linter.unusedSimpArgs false
set_option maxHeartbeats 4000000
namespace Mine
open PySem (Sem Str Value Heap Obj Shared)
section
variable {C : Cx} {a : Adr} {ρ : Wd} {τ σ : Lc} {s : Shared} {A : Around} {E : Value → Shared → Prop} {R : Result → Shared → Prop}
structure LgP (lr : Addr) (ρ1 : Wd) (rows : List (List Nat)) (y : LwS) : Prop where
  f1 : y.m "rows" = some (.ref lr)
  f2 : Ext ρ1 y.ρ
  f3 : IL y.vo y.order
  f4 : lGo (aAll rows) rows y.n y.order = lMerge rows
  f5 : y.n + y.order.length = (aAll rows).length + 1
  f6 : y.order.length ≤ (aAll rows).length
theorem lMerge_ok (T : Text C a) (TL : TextL C a) {lr : Addr} {ls : List Addr} {rows : List (List Nat)} (hlr : ρ lr = some (.list (adrs ls))) (hR : RowsI ρ ls rows) (hz : rows.length ≤ 10) (hz2 : ∀ r, r ∈ rows → r.length ≤ 10)
    (S : St C ρ τ σ s) (r : Rm A 3) (hh : A.handled = none)
    (hNone : lMerge rows = none → ∀ ρ' s', Ext ρ ρ' → St C ρ' τ σ s' → R (.ok (.ret .none)) s')
    (hSome : ∀ ns l vs ρ' s', lMerge rows = some ns → Ext ρ ρ' → IL vs ns → St C ρ' τ (σ ++ [(l, .list vs)]) s' → R (.ok (.ret (.ref l))) s') :
    codeAny C.M A (.call (.ref a.lMerge) ⟨[.ref lr], []⟩) R s := by
  refine enter S TL.fMerge r.d (binds := [("rows", .ref lr)]) (fun _ _ _ _ _ _ => BindsTo.of_eq rfl) fun L cdv s' S => ?_
  refine pk2 (P1 := fun (m0 : Mp) => St C ρ (σ ++ τ) [(L, .fr "frame" m0), (L + 2, .cell none), (L + 1, .cell none)] s') (P2 := fun (m0 : Mp) => m0 "rows" = some (.ref lr)) _ (S) (rfl) fun m0 S q1 => ?_
  have S : St C ρ (σ ++ τ) [(L, .fr "frame" m0), (L + 1, .cell none), (L + 2, .cell none)] s' := S.perm (List.Perm.append_right _ ((List.Perm.swap _ _ _).cons _))
  refine xcons (xAsg (eDict0 S fun da s' S => stC S 1 rfl fun s' S => ?_))
  refine xcons (lm_ahead T S q1 hlr hR hz hz2 hh fun m1 ρ1 kvs s' q1 x1 hA hB S => ?_)
  refine xcons (xAsg (eList ⟨_, _, _, S, Nat.zero_le _, fun lo s' S => stC S 2 rfl fun s' S => ?_⟩))
  have hkk : kvs.length = (aAll rows).length := hA.len
  have hk1 : (aAll rows).length ≤ 100 := hB.1
  refine xcons (wpAny_While ?_)
  refine while_st (α := LwS) (τ := σ ++ τ) (E' := fun _ _ => False) (fun y => y.ρ) (fun y => (L, .fr "frame" y.m) :: lmσ L da lo kvs y.vo)
    (LgP lr ρ1 rows)
    (fun y => y.n) noE ⟨m1, ρ1, [], [], (aAll rows).length + 1⟩ S ⟨q1, .refl _, IL.nil, rfl, rfl, Nat.zero_le _⟩ ?_
  rintro ⟨m, ρk, vo, order, n⟩ s ⟨p1, p2, p3, p4, p5, p6⟩ S
  dsimp only at p1 p2 p3 p4 p5 p6 S
  have hvo : vo.length = order.length := p3.len
  have hvz : vo.length ≤ Big := by rw [hvo]; exact Nat.le_trans p6 (Nat.le_trans hk1 (by decide))
  refine xCmp (Call_ (ldB S (T.nog _ rfl) rfl (cwB (ldC S 2 rfl (xLen S (S.at 4 rfl) hvz fun t s' S => Call_ (ldB S (T.nog _ rfl) rfl (cwB (ldC S 1 rfl (xLenD S (S.at 3 rfl) (by rw [hkk]; exact Nat.le_trans hk1 (by decide)) fun t2 s' S => wpAny_lt_int (wpAny_truthy_bool ?_))))))))))
  obtain ⟨n, rfl⟩ : ∃ k, n = k + 1 := ⟨n - 1, by omega⟩
  by_cases hlt : order.length < (aAll rows).length
  · rw [decide_eq_true (show (vo.length : Int) < (kvs.length : Int) by omega), if_pos rfl]
    rw [lGo, if_pos hlt] at p4
    refine xcons (lm_heads (A := A.deeper (lmE L a cdv)) T S p1 ((x1.trans p2) _ _ hlr) (hR.ext (x1.trans p2)) hz hz2 p3 hh (fun ρ2 lh hs s' x2 hH S => ?_) _ _ _ rfl)
    refine S.giveE 5 rfl fun ρ3 x3 elh S => ?_
    have X := (p2.trans x2).trans x3
    refine xcons (lm_free (m0 := m.put "heads" (.ref lh)) T S rfl elh (hH.ext x3) ?_ ?_ (hA.ext X) hB p3 (r.deeper (n := 2) _ |>.le (by decide)) hh fun lf vf s' hvf S => ?_)
    · unfold lHeads; rw [List.length_map]; exact hz
    · intro q hq
      unfold lHeads at hq
      obtain ⟨row, hrow, rfl⟩ := List.mem_map.mp hq
      refine ⟨by rw [List.length_take]; exact Nat.min_le_left .., fun k hk => ?_⟩
      exact aAll_has hrow (List.mem_filter.mp (List.mem_of_mem_take hk)).1
    have hfe : frOf (aAll rows) order (lHeads rows order) = lFree (aAll rows) rows order := rfl
    rw [hfe] at hvf
    have hfl : vf.length ≤ Big := by
      rw [hvf.len]
      unfold lFree
      refine Nat.le_trans (List.length_filter_le ..) (Nat.le_trans (List.length_filterMap_le ..) ?_)
      unfold lHeads; rw [List.length_map]; exact Nat.le_trans hz (by decide)
    refine pk3 (P1 := fun (m2 : Mp) => St C ρ3 (σ ++ τ) ((L, .fr "frame" m2) :: lmσ L da lo kvs vo ++ [(lf, .list vf)]) s') (P2 := fun (m2 : Mp) => m2 "rows" = some (.ref lr)) (P3 := fun (m2 : Mp) => m2 "free" = some (.ref lf)) ((m.put "heads" (.ref lh)).put "free" (.ref lf)) (S) (p1) (rfl) fun m2 S u1 u2 => ?_
    refine xcons (wpAny_If (isTrue_not (isTrue_plain (ldL S rfl u2 (tList S (S.at 5 rfl) hfl fun s' S => ?_)))))
    cases hfr : lFree (aAll rows) rows order with
    | nil =>
      rw [hfr] at hvf p4
      have : vf = [] := List.length_eq_zero_iff.mp hvf.len
      subst this
      rw [if_pos (show (!(!([] : List Value).isEmpty)) = true from rfl)]
      refine xcons (wpAny_Return_some (cNone ?_))
      exact hNone p4.symm ρ3 s' (x1.trans X) S.forget.back0
    | cons f rest =>
      rw [hfr] at hvf p4
      have hne : (!(!vf.isEmpty)) = false := by
        have := hvf.len
        cases vf with
        | nil => cases this
        | cons _ _ => rfl
      rw [hne, if_neg Bool.false_ne_true]
      refine wpAny_execs_nil (xcons (wpAny_Expr_any (xMeth (ldC S 2 rfl (gAppend (S.at 4 rfl) (cwB (xSub (ldL S rfl u2 ?_))))))))
      refine cInt (i := 0) S fun t s' S => sIdxI (i := 0) (S.at 5 rfl) hvf rfl hfl fun t2 => bAppend S 4 rfl hvz fun s' S => ?_
      refine wpAny_execs_nil ⟨⟨m2, ρ3, vo ++ [.int f t2], order ++ [f], n⟩, Nat.lt_succ_self _, ⟨u1, X, p3.app (IL.one f t2), p4, ?_, ?_⟩, S.sub (List.Sublist.append (List.Sublist.cons_cons _ (List.Sublist.cons_cons _ (List.Sublist.cons_cons _ (List.Sublist.cons_cons _ (List.Sublist.cons_cons _ (List.nil_sublist _)))))) (.refl _))⟩
      · rw [List.length_append, List.length_singleton]; show n + (order.length + 1) = _; omega
      · rw [List.length_append, List.length_singleton]; (with_reducible exact Nat.succ_le_of_lt ‹_›)
  · rw [decide_eq_false (show ¬ (vo.length : Int) < (kvs.length : Int) by omega), if_neg Bool.false_ne_true]
    rw [lGo, if_neg hlt] at p4
    refine wpAny_execs_nil (xcons (wpAny_Return_some (ldC S 2 rfl ?_)))
    exact hSome order lo vo ρk s' p4.symm (x1.trans p2) p3 (St.back (S.sub (List.Sublist.cons _ (List.Sublist.cons _ (List.Sublist.cons _ (List.Sublist.cons _ (.refl _)))))))
end
end Mine
end
section
open PySem PySem.W PyProof.Rows PySem.Calls
set_option Elab.async false
set_option genSizeOf false
set_option genInjectivity false
set_option maxRecDepth 100000
set_option linter.unusedVariables false
set_option linter.unusedSimpArgs false
set_option maxHeartbeats 4000000
namespace Mine
open PySem (Sem Str Value Heap Obj Shared)
noncomputable def six : List Nat := [0, 1, 2, 3, 4, 5]
structure WorldAt (ρ : Wd) (V : Vo) (bs : Nat → List Nat) (ranked : List Nat) (w ls lb lr : Addr) (bl : List Addr) (vr : List Value) : Prop where
  w : ρ w = some (.sdict [("specs", .ref ls), ("bases", .ref lb), ("ranked", .ref lr)])
  specs : ρ ls = some (.list (V.refs six))
  bases : ρ lb = some (.list (adrs bl))
  rows : RowsI ρ bl (six.map bs)
  rk : ρ lr = some (.list vr)
  rki : IL vr ranked
theorem six_get {n : Nat} (h : n < 6) : six[n]? = some n := (by decide : ∀ n, n < 6 → six[n]? = some n) n h
theorem WorldAt.ext {ρ ρ' : Wd} {V : Vo} {bs : Nat → List Nat} {ranked : List Nat} {w ls lb lr : Addr} {bl : List Addr} {vr : List Value} (h : WorldAt ρ V bs ranked w ls lb lr bl vr) (x : Ext ρ ρ') : WorldAt ρ' V bs ranked w ls lb lr bl vr :=
  ⟨x _ _ h.w, x _ _ h.specs, x _ _ h.bases, h.rows.ext x, x _ _ h.rk, h.rki⟩
theorem WorldAt.row {ρ : Wd} {V : Vo} {bs : Nat → List Nat} {ranked : List Nat} {w ls lb lr : Addr} {bl : List Addr} {vr : List Value} (h : WorldAt ρ V bs ranked w ls lb lr bl vr) {n : Nat} (hn : n < 6) : ∃ l vs, bl[n]? = some l ∧ ρ l = some (.list vs) ∧ IL vs (bs n) := by
  have hl := h.rows.len
  rw [List.length_map] at hl
  have h6 : six.length = 6 := rfl
  obtain ⟨l, hbl⟩ : ∃ l, bl[n]? = some l := ⟨bl[n]'(by omega), List.getElem?_eq_getElem _⟩
  obtain ⟨r, vs, h1, h2, h3⟩ := h.rows.get hbl
  rw [List.getElem?_map, six_get hn] at h1
  cases h1
  exact ⟨l, vs, hbl, h2, h3⟩
theorem WorldAt.bl6 {ρ : Wd} {V : Vo} {bs : Nat → List Nat} {ranked : List Nat} {w ls lb lr : Addr} {bl : List Addr} {vr : List Value} (h : WorldAt ρ V bs ranked w ls lb lr bl vr) : bl.length = 6 := by
  have hl := h.rows.len
  rw [List.length_map] at hl
  exact hl
structure LvS where
  m : Mp
  l : Addr
  vs : List Value
section
variable {C : Cx} {a : Adr} {ρ : Wd} {V : Vo} {g : Gs} {ranked : List Nat} {w ls lb lr : Addr} {bl : List Addr} {vr : List Value}
theorem flatMap_take_le {f : Nat → List Nat} (l : List Nat) (k : Nat) : ((l.take k).flatMap f).length ≤ (l.flatMap f).length := by
  have : l.flatMap f = (l.take k).flatMap f ++ (l.drop k).flatMap f := by rw [← List.flatMap_append, List.take_append_drop]
  rw [this, List.length_append]; (with_reducible exact Nat.le_add_right _ _)
structure LwP (V : Vo) (g : Gs) (w : Addr) (i : Nat) (k : Nat) (y : LvS) : Prop where
  f1 : y.m "world" = some (.ref w)
  f2 : y.m "row" = some (.ref y.l)
  f3 : IL y.vs (i :: ((g.bs i).take k).flatMap (V.wo g).walk)
theorem lWalk_ok (T : Text C a) (TL : TextL C a) (O : (V.wo g).Ok) (Wl : WorldAt ρ V g.bs ranked w ls lb lr bl vr) : ∀ (n : Nat) {i : Nat} {t : Tok} {τ σ : Lc} {s : Shared} {A : Around} {R : Result → Shared → Prop},
    V.live i → V.rk i < n → St C ρ τ σ s → Rm A n → A.handled = none →
    (∀ l vs s', IL vs ((V.wo g).walk i) → St C ρ τ (σ ++ [(l, .list vs)]) s' → R (.ok (.ret (.ref l))) s') →
    codeAny C.M A (.call (.ref a.lWalk) ⟨[.ref w, .int (i : Nat) t], []⟩) R s := by
  intro n
  induction n with
  | zero => intro i t τ σ s A R hi hn; exact absurd hn (Nat.not_lt_zero _)
  | succ n ih =>
    intro i t τ σ s A R hi hn S r hh hOk
    have h6 := O.six i hi
    obtain ⟨lb', vb, hbl, hvb, hib⟩ := Wl.row h6
    have hb5 : (g.bs i).length ≤ 5 := O.len i hi
    have hw : (V.wo g).walk i = i :: (g.bs i).flatMap (V.wo g).walk := walk_eq O hi
    have hwl := walk_len O hi
    refine enter S TL.fWalk r.d (binds := [("world", .ref w), ("node", .int (i : Nat) t)]) (fun _ _ _ _ _ _ => BindsTo.of_eq rfl) fun L cdv s' S => ?_
    refine pk3 (P1 := fun (m0 : Mp) => St C ρ (σ ++ τ) [(L, .fr "frame" m0)] s') (P2 := fun (m0 : Mp) => m0 "world" = some (.ref w)) (P3 := fun (m0 : Mp) => m0 "node" = some (.int (i : Nat) t)) _ (S) (rfl) (rfl) fun m0 S q1 q2 => ?_
    refine xcons (xAsg (eList (ldL S rfl q2 ⟨_, _, _, S, big1, fun l0 s' S => stL S rfl fun s' S => ?_⟩)))
    refine pk4 (P1 := fun (m1 : Mp) => St C ρ (σ ++ τ) [(L, .fr "frame" m1), (l0, .list [.int (i : Nat) t])] s') (P2 := fun (m1 : Mp) => m1 "world" = some (.ref w)) (P3 := fun (m1 : Mp) => m1 "node" = some (.int (i : Nat) t)) (P4 := fun (m1 : Mp) => m1 "row" = some (.ref l0)) (m0.put "row" (.ref l0)) (S) (q1) (q2) (rfl) fun m1 S q1 q2 q3 => ?_
    refine xcons (xFor (xSub (xSub (ldL S rfl q1 ?_))))
    refine cStr S fun t1 s' S => sSGet S (S.o Wl.w) rfl fun s' S => ldL S rfl q2 ?_
    have hbz : (adrs bl).length ≤ Big := by rw [List.length_map, Wl.bl6]; decide
    refine sIdx (v := .ref lb') (S.o Wl.bases) (by rw [Int.toNat_natCast, List.getElem?_map, hbl]; rfl) (by (with_reducible exact Int.natCast_nonneg _)) (by ((with_reducible refine oz6 ‹_› ?_); exact rfl)) ?_
    refine itList S (S.o hvb) fun I s' S _ => ?_
    refine forLoop_t (α := LvS) (τ := σ ++ τ) (E' := fun _ _ => False) (Wk.list (by exact hh) I lb' vb) (fun _ => ρ) (fun y => [(L, .fr "frame" y.m), (y.l, .list y.vs)])
      (LwP V g w i) noE (fun _ _ _ _ _ S => S.o hvb) ⟨m1, l0, [.int (i : Nat) t]⟩ S ⟨q1, q3, IL.one i t⟩ ?_ ?_
    · rintro k Qb Eb hQb hEb hRb ⟨mk, lk, vk⟩ v s hv ⟨p1, p2, p3⟩ S
      dsimp only at p1 p2 p3 S
      obtain ⟨j, tj, rfl, hj⟩ := hib.get hv
      have c := O.cl i hi j (List.mem_of_getElem? hj)
      refine wpAny_of_eq (a := ()) rfl (wpAny_assign_Name (stL S rfl fun s' S => ?_))
      refine pk4 (P1 := fun (m2 : Mp) => St C ρ ((I, litO lb' (k + 1)) :: (σ ++ τ)) [(L, .fr "frame" m2), (lk, .list vk)] s') (P2 := fun (m2 : Mp) => m2 "world" = some (.ref w)) (P3 := fun (m2 : Mp) => m2 "row" = some (.ref lk)) (P4 := fun (m2 : Mp) => m2 "base" = some (.int (j : Nat) tj)) (mk.put "base" (.int (j : Nat) tj)) (S) (p1) (p2) (rfl) fun m2 S p1 p2 p4 => ?_
      refine xcons (xAsg (xBin (ldL S rfl p2 (Call_ (ldG S (T.glob _ _ rfl) (cwK TL.fWalk.keep (ldL S rfl p1 (ldL S rfl p4 ⟨S.amb.x, callC ?_⟩))))))))
      refine ih c.1 (Nat.lt_of_lt_of_le c.2 (Nat.le_of_lt_succ hn)) S (r.deeper _) hh fun l2 v2 s' h2 S => ?_
      have hcat : IL (vk ++ v2) (i :: ((g.bs i).take (k + 1)).flatMap (V.wo g).walk) := by
        have := p3.app h2
        rw [List.take_add_one, hj]
        simpa using this
      have hsum : vk.length + v2.length ≤ Big := by
        have h1 := hcat.len
        rw [List.length_append] at h1
        have h2 := flatMap_take_le (f := (V.wo g).walk) (g.bs i) (k + 1)
        rw [hw] at hwl
        rw [List.length_cons] at h1 hwl
        show _ ≤ 100000
        omega
      refine oAddL S (S.at 1 rfl) (S.at 2 rfl) hsum fun r2 s' S => stL S rfl fun s' S => ?_
      refine wpAny_execs_nil (hQb ⟨m2.put "row" (.ref r2), r2, vk ++ v2⟩ _ ⟨p1, rfl, hcat⟩ (S.sub (List.Sublist.append (List.Sublist.cons_cons _ (List.Sublist.cons _ (List.Sublist.cons _ (.refl _)))) (.refl _))))
    · rintro ⟨mk, lk, vk⟩ s ⟨p1, p2, p3⟩ S
      dsimp only at p1 p2 p3 S
      rw [hib.len, List.take_length, ← hw] at p3
      refine wpAny_execs_nil (xcons (wpAny_Return_some (ldL S rfl p2 ?_)))
      exact hOk lk vk s p3 (St.back (S.sub (List.Sublist.cons _ (.refl _))))
end
end Mine
end
section
open PySem
set_option Elab.async false
set_option linter.unusedVariables false
namespace Mine
open PySem (Sem Str Value Heap Obj Shared)
noncomputable def oTail (settled : Bool) (bs wt : List Nat) (f : Nat → List Nat) : List Nat :=
  let o := (lMerge (bs.map f ++ [bs])).getD (keepLast wt)
  if settled then o.filter (fun k => decide (k ≠ 5)) ++ [5] else o
noncomputable def lOrdN (settled : Bool) (W : Wo) : Nat → Nat → List Nat
  | 0, _ => []
  | n + 1, i => if i = 5 then [5] else i :: oTail settled (W.bs i) (W.walk i).tail (lOrdN settled W n)
noncomputable def lOrd (settled : Bool) (W : Wo) (i : Nat) : List Nat := lOrdN settled W (W.rk i + 1) i
noncomputable def qStep (settled : Bool) (W : Wo) (i : Nat) (q : Nat → Bool) : Bool := (lMerge ((W.bs i).map (lOrd settled W) ++ [W.bs i])).isSome && (W.bs i).all q
noncomputable def lQN (settled : Bool) (W : Wo) : Nat → Nat → Bool
  | 0, _ => true
  | n + 1, i => if i = 5 then true else qStep settled W i (lQN settled W n)
noncomputable def lQ (settled : Bool) (W : Wo) (i : Nat) : Bool := lQN settled W (W.rk i + 1) i
theorem oTail_congr {settled : Bool} {bs wt : List Nat} {f g : Nat → List Nat} (h : ∀ j, j ∈ bs → f j = g j) : oTail settled bs wt f = oTail settled bs wt g := by
  unfold oTail
  rw [List.map_congr_left h]
theorem lOrdN_eq {settled : Bool} {W : Wo} (O : W.Ok) : ∀ (n m j : Nat), W.live j → W.rk j < n → W.rk j < m → lOrdN settled W n j = lOrdN settled W m j
  | n + 1, m + 1, j, hj, hn, hm => by
    rw [lOrdN, lOrdN]
    split
    · rfl
    · refine congrArg _ (oTail_congr fun k hk => ?_)
      have c := O.cl j hj k hk
      exact lOrdN_eq O n m k c.1 (by omega) (by omega)
theorem lOrd_five (settled : Bool) (W : Wo) : lOrd settled W 5 = [5] := by rw [lOrd, lOrdN, if_pos rfl]
theorem lOrd_eq {settled : Bool} {W : Wo} (O : W.Ok) {i : Nat} (hi : W.live i) (h5 : i ≠ 5) : lOrd settled W i = i :: oTail settled (W.bs i) (W.walk i).tail (lOrd settled W) := by
  rw [lOrd, lOrdN, if_neg h5]
  refine congrArg _ (oTail_congr fun k hk => ?_)
  have c := O.cl i hi k hk
  exact lOrdN_eq O _ _ k c.1 c.2 (Nat.lt_succ_self _)
theorem qStep_congr {settled : Bool} {W : Wo} {i : Nat} {f g : Nat → Bool} (h : ∀ j, j ∈ W.bs i → f j = g j) : qStep settled W i f = qStep settled W i g := by
  unfold qStep
  have : (W.bs i).all f = (W.bs i).all g := by
    rw [Bool.eq_iff_iff, List.all_eq_true, List.all_eq_true]
    exact ⟨fun q j hj => (h j hj) ▸ q j hj, fun q j hj => (h j hj).symm ▸ q j hj⟩
  rw [this]
theorem lQN_eq {settled : Bool} {W : Wo} (O : W.Ok) : ∀ (n m j : Nat), W.live j → W.rk j < n → W.rk j < m → lQN settled W n j = lQN settled W m j
  | n + 1, m + 1, j, hj, hn, hm => by
    rw [lQN, lQN]
    split
    · rfl
    · refine qStep_congr fun k hk => ?_
      have c := O.cl j hj k hk
      exact lQN_eq O n m k c.1 (by omega) (by omega)
theorem lQ_five (settled : Bool) (W : Wo) : lQ settled W 5 = true := by rw [lQ, lQN, if_pos rfl]
theorem lQ_eq {settled : Bool} {W : Wo} (O : W.Ok) {i : Nat} (hi : W.live i) (h5 : i ≠ 5) : lQ settled W i = qStep settled W i (lQ settled W) := by
  rw [lQ, lQN, if_neg h5]
  refine qStep_congr fun k hk => ?_
  have c := O.cl i hi k hk
  exact lQN_eq O _ _ k c.1 c.2 (Nat.lt_succ_self _)
end Mine
end
section
open PySem PySem.W PyProof.Rows PySem.Calls
set_option Elab.async false
set_option maxRecDepth 100000
set_option linter.unusedVariables false
set_option linter.unusedSimpArgs false
set_option maxHeartbeats 4000000
namespace Mine
open PySem (Sem Str Value Heap Obj Shared)
noncomputable abbrev foBody : Stmt → List Stmt := clsBody
noncomputable def OrdV (ρ : Wd) (v : Value) : Option (List Nat) → Prop
  | none => v = .none
  | some ns => ∃ l vs, v = .ref l ∧ ρ l = some (.list vs) ∧ IL vs ns
section
variable {C : Cx} {a : Adr} {ρ : Wd} {τ σ : Lc} {s : Shared} {A : Around} {E : Value → Shared → Prop} {Q : Flow → Shared → Prop} {R : Result → Shared → Prop}
noncomputable abbrev loE (L : Addr) (a : Adr) (cdv : Value) : Env := envX "_law_orders" (topF 18).scope L a.lOrders cdv (cellsFrom (L + 1) (topF 18).scope.names [])
noncomputable abbrev loσ (L od dq : Addr) (kvo kvq : List (Int × Value)) : Lc := [(L + 1, .cell (some (.ref od))), (L + 2, .cell (some (.ref dq))), (od, .idict kvo), (dq, .idict kvq)]
theorem lo_merge (T : Text C a) (TL : TextL C a) {L od dq lb : Addr} {cdv : Value} {m0 : Mp} {kvo kvq : List (Int × Value)} {as : List (Nat × List Nat)} {vb : List Value} {bsi : List Nat} {f : Nat → List Nat} (S : St C ρ τ ((L, .fr "frame" m0) :: loσ L od dq kvo kvq) s)
    (q1 : m0 "bases" = some (.ref lb)) (hlb : ρ lb = some (.list vb)) (hvb : IL vb bsi) (hb5 : bsi.length ≤ 5) (hA : AhAt ρ kvo as) (hf : ∀ b, b ∈ bsi → agetO as b = some (f b) ∧ (f b).length ≤ 10) (r : Rm A 4) (hh : A.handled = none)
    (hOk : ∀ ρ' v s', Ext ρ ρ' → OrdV ρ' v (lMerge (bsi.map f ++ [bsi])) → St C ρ' τ ((L, .fr "frame" (m0.put "order" v)) :: loσ L od dq kvo kvq) s' → Q .next s') :
    wpAny C.M A (exec (nthS (foBody (nthS (topF 18).body 2)) 1) (loE L a cdv)) Q E s := by
  refine xAsg (Call_ (ldG S (T.glob _ _ rfl) (cwK TL.fMerge.keep (xBin ?_))))
  refine listComp_st (τ := τ) (α := List Addr) (E' := fun _ _ => False) (fun _ => ρ) (fun _ => (L, .fr "frame" m0) :: loσ L od dq kvo kvq)
    (fun k y ys => ys = adrs y ∧ RowsI ρ y ((bsi.take k).map f)) rfl (by rfl) rfl (fun _ _ _ f => f.elim) ?_
  have hvz : vb.length ≤ Big := by rw [hvb.len]; exact Nat.le_trans hb5 (by decide)
  refine ldL S rfl q1 (itList S (S.o hlb) fun I s' S _ => ⟨I, _, vb, _, [], rfl, Wk.list hh I lb vb, hvz, S, ⟨rfl, trivial⟩, ?_, ?_, ?_⟩)
  · rintro k y ys τ' σ' s _ S; exact S.o hlb
  · rintro k y v ys Lc D mc s hv ⟨hys, hrs⟩ hmv S
    obtain ⟨b, t, rfl, hb⟩ := hvb.get hv
    have hbf := hf b (List.mem_of_getElem? hb)
    obtain ⟨ns, l, vs, h1, h2, h3, h4⟩ := (hA.get (n := b)).resolve_left fun q => by rw [hbf.1] at q; cases q.1
    rw [hbf.1] at h1; cases h1
    refine tests_nil ?_
    rw [if_pos rfl]
    refine xSub (ldC S 2 rfl (ldL S rfl hmv (sDGet S (S.at 4 rfl) h2 fun s' S => ⟨y ++ [l], ⟨?_, ?_⟩, S⟩)))
    · rw [hys]; simp [adrs]
    · rw [List.take_add_one, hb, List.map_append]
      exact hrs.snoc h3 h4
  · rintro y ys D s ⟨hys, hrs⟩ S
    have hrs : RowsI ρ y (bsi.map f) := by rw [hvb.len, List.take_length] at hrs; exact hrs
    subst hys
    have hyl : y.length ≤ 5 := by rw [hrs.len, List.length_map]; exact hb5
    refine eList (ldL S rfl q1 ⟨_, _, _, S, big1, fun l1 s' S => oAddL S (S.at 5 rfl) (S.at 6 rfl) (by simp [adrs, Big]; ((with_reducible refine oz2 ‹_› ?_); exact rfl)) fun r1 s' S => ?_⟩)
    have ea : adrs y ++ [Value.ref lb] = adrs (y ++ [lb]) := by simp [adrs]
    rw [ea] at S
    refine S.giveE 7 rfl fun ρ1 x1 er S => ?_
    have S : St C ρ1 τ ((L, .fr "frame" m0) :: loσ L od dq kvo kvq) s' := S.sub (List.Sublist.append (List.Sublist.cons_cons _ (List.Sublist.cons_cons _ (List.Sublist.cons_cons _ (List.Sublist.cons_cons _ (List.Sublist.cons_cons _ (List.nil_sublist _)))))) (.refl _))
    refine ⟨S.amb.x, callC (lMerge_ok T TL er ((hrs.ext x1).snoc (x1 _ _ hlb) hvb) ?_ ?_ S (r.le (by decide)) hh ?_ ?_)⟩
    · rw [List.length_append, List.length_map]; simp; ((with_reducible refine oz2 ‹_› ?_); exact rfl)
    · intro q hq
      rcases List.mem_append.mp hq with hq | hq
      · obtain ⟨b, hb, rfl⟩ := List.mem_map.mp hq
        exact (hf b hb).2
      · cases List.mem_singleton.mp hq; ((with_reducible refine oz2 ‹_› ?_); exact rfl)
    · intro hn ρ2 s' x2 S
      refine stL S rfl fun s' S => hOk ρ2 .none s' (x1.trans x2) ?_ S
      rw [hn]; rfl
    · intro ns l vs ρ2 s' hm x2 hvs S
      refine S.giveE 5 rfl fun ρ3 x3 el S => ?_
      refine stL S rfl fun s' S => hOk ρ3 (.ref l) s' ((x1.trans x2).trans x3) ?_ S
      rw [hm]; exact ⟨l, vs, rfl, el, hvs⟩
theorem nInB {D : Addr} {bs : List Bool} {Q : Value → Shared → Prop} (hl : s.heap.PlainList D (bs.map Value.bool).toArray) (h : Q (.bool (bs.all id)) s) : wpAny C.M A (compareOp .NotIn (.bool false) (.ref D)) Q E s := by
  refine SeqAt.notIn_listAt (fun y => y == .bool false) hl.isList (fun y hy => ?_) ?_
  · have hy : y ∈ bs.map Value.bool := by simpa using hy
    obtain ⟨b, hb, rfl⟩ := List.mem_map.mp hy
    have e : (Value.bool b == Value.bool false) = (b == false) := by cases b <;> rfl
    rw [e]
    exact SeqAt.EqAt.bool_bool b false
  · have : (!(bs.map Value.bool).toArray.any fun y => y == .bool false) = bs.all id := by
      rw [List.any_toArray]
      clear h hl
      induction bs with
      | nil => rfl
      | cons b l ih =>
        rw [List.map_cons, List.any_cons, List.all_cons, Bool.not_or, ih]
        cases b <;> rfl
    rw [this]; exact h
theorem lo_quiet (T : Text C a) {L od dq lb : Addr} {cdv v : Value} {m0 : Mp} {kvo kvq : List (Int × Value)} {om : Option (List Nat)} {vb : List Value} {bsi : List Nat} {q : Nat → Bool} {i : Nat} {t : Tok} (S : St C ρ τ ((L, .fr "frame" m0) :: loσ L od dq kvo kvq) s)
    (q1 : m0 "bases" = some (.ref lb)) (q2 : m0 "node" = some (.int (i : Nat) t)) (q3 : m0 "order" = some v) (ho : OrdV ρ v om) (hlb : ρ lb = some (.list vb)) (hvb : IL vb bsi) (hb5 : bsi.length ≤ 5) (hq : ∀ b, b ∈ bsi → valueAt kvq (b : Int) = some (.bool (q b))) (hn : valueAt kvq (i : Int) = none) (hz : kvq.length ≤ 10) (hh : A.handled = none)
    (hOk : ∀ s', St C ρ τ ((L, .fr "frame" m0) :: loσ L od dq kvo (kvq ++ [((i : Int), .bool (om.isSome && bsi.all q))])) s' → Q .next s') :
    wpAny C.M A (exec (nthS (foBody (nthS (topF 18).body 2)) 2) (loE L a cdv)) Q E s := by
  refine wpAny_Assign_Subscript (wpAny_mono (Q := fun v s' => v = .bool (om.isSome && bsi.all q) ∧ St C ρ τ ((L, .fr "frame" m0) :: loσ L od dq kvo kvq) s') (BoolOp_and (wpAny_Compare1 (ldL S rfl q3 (cNone ?_)))) (fun v' s' h => ?_) fun _ _ e => e)
  · cases om with
    | none =>
      have hv : v = .none := ho
      rw [hv]
      refine wpAny_isNot_self rfl (wpAny_truthy_bool ?_)
      rw [if_neg Bool.false_ne_true]
      exact ⟨rfl, S⟩
    | some ns =>
      obtain ⟨l, vs, hv, _⟩ := ho
      rw [hv]
      refine wpAny_isNot_other rfl (fun q => nomatch q) (wpAny_truthy_bool ?_)
      rw [if_pos rfl]
      refine BoolOp_one (wpAny_Compare1 (cBool ?_))
      refine listComp_st (τ := τ) (α := Unit) (E' := fun _ _ => False) (fun _ => ρ) (fun _ => (L, .fr "frame" m0) :: loσ L od dq kvo kvq)
        (fun k y ys => ys = ((bsi.take k).map q).map Value.bool) rfl (by rfl) rfl (fun _ _ _ f => f.elim) ?_
      have hvz : vb.length ≤ Big := by rw [hvb.len]; exact Nat.le_trans hb5 (by decide)
      refine ldL S rfl q1 (itList S (S.o hlb) fun I s' S _ => ⟨I, _, vb, _, (), rfl, Wk.list hh I lb vb, hvz, S, rfl, ?_, ?_, ?_⟩)
      · rintro k y ys τ' σ' s _ S; exact S.o hlb
      · rintro k y v ys Lc D mc s hv hys hmv S
        obtain ⟨b, tb, rfl, hb⟩ := hvb.get hv
        refine tests_nil ?_
        rw [if_pos rfl]
        refine xSub (ldC S 3 rfl (ldL S rfl hmv (sDGet S (S.at 5 rfl) (hq b (List.mem_of_getElem? hb)) fun s' S => ⟨(), ?_, S⟩)))
        rw [hys, List.take_add_one, hb]; simp
      · rintro y ys D s hys S
        have hys : ys = (bsi.map q).map Value.bool := by rw [hvb.len, List.take_length] at hys; exact hys
        subst hys
        refine nInB (S.at 5 rfl) ⟨?_, S.sub (List.Sublist.append (List.Sublist.cons_cons _ (List.Sublist.cons_cons _ (List.Sublist.cons_cons _ (List.Sublist.cons_cons _ (List.Sublist.cons_cons _ (List.nil_sublist _)))))) (.refl _))⟩
        rw [List.all_map]; rfl
  · obtain ⟨rfl, S⟩ := h
    refine ldC S 2 rfl (ldL S rfl q2 (hDSet (S.at 4 rfl) (Nat.le_trans hz (by decide)) fun s' cg tt => ?_))
    have S := S.setL 4 rfl cg tt
    rw [stored_new hn] at S
    exact hOk s' S
end
end Mine
end
section
open PySem PySem.W PyProof.Rows PySem.Calls
set_option Elab.async false
set_option genSizeOf false
set_option genInjectivity false
set_option maxRecDepth 100000
set_option linter.unusedVariables false
set_option linter.unusedSimpArgs false
set_option maxHeartbeats 4000000
namespace Mine
open PySem (Sem Str Value Heap Obj Shared)
noncomputable def kLast (l : List Nat) : List Nat := l.foldl (fun acc a => if a ∈ acc then acc else a :: acc) []
theorem kLast_rev (l : List Nat) : kLast l.reverse = keepLast l := by
  unfold kLast keepLast
  rw [List.foldl_reverse]
theorem kLast_snoc (l : List Nat) (a : Nat) : kLast (l ++ [a]) = if a ∈ kLast l then kLast l else a :: kLast l := by
  unfold kLast
  rw [List.foldl_append]; rfl
theorem kLast_len : ∀ (l acc : List Nat), (l.foldl (fun acc a => if a ∈ acc then acc else a :: acc) acc).length ≤ acc.length + l.length
  | [], acc => Nat.le_refl _
  | a :: l, acc => by
    rw [List.foldl_cons]
    have := kLast_len l (if a ∈ acc then acc else a :: acc)
    refine Nat.le_trans this ?_
    split <;> simp <;> omega
structure LsS where
  m : Mp
  l : Addr
  vs : List Value
  acc : List Nat
section
variable {C : Cx} {a : Adr} {ρ : Wd} {τ σ : Lc} {s : Shared} {A : Around} {E : Value → Shared → Prop} {Q : Flow → Shared → Prop} {R : Result → Shared → Prop}
theorem inl_sub {p : Addr × AObj} {l0 ext : Lc} {τ : Lc} : (p :: l0 ++ τ).Sublist (p :: l0 ++ ext ++ τ) :=
  List.Sublist.append (List.sublist_append_left _ _) (.refl _)
structure LoF (V : Vo) (g : Gs) (i : Nat) (m0 : Mp) (k : Nat) (y : LsS) : Prop where
  f1 : (∀ x : Str, x ≠ "order" → x ≠ "other" → y.m x = m0 x)
  f2 : y.m "order" = some (.ref y.l)
  f3 : IL y.vs y.acc
  f4 : y.acc = kLast ((((V.wo g).walk i).tail.reverse).take k)
  f5 : k ≤ 46656
theorem lo_if {V : Vo} {g : Gs} {ranked : List Nat} {w ls lb0 lr : Addr} {bl : List Addr} {vr : List Value} (T : Text C a) (TL : TextL C a) (O : (V.wo g).Ok) (Wl : WorldAt ρ V g.bs ranked w ls lb0 lr bl vr) {L od dq : Addr} {cdv v : Value} {m0 : Mp} {kvo kvq : List (Int × Value)} {om : Option (List Nat)} {i : Nat} {t : Tok} (S : St C ρ τ ((L, .fr "frame" m0) :: loσ L od dq kvo kvq) s)
    (q1 : m0 "world" = some (.ref w)) (q2 : m0 "node" = some (.int (i : Nat) t)) (q3 : m0 "order" = some v) (ho : OrdV ρ v om) (hi : V.live i) (r : Rm A 7) (hh : A.handled = none)
    (hOk : ∀ m' ρ' l vs s', Ext ρ ρ' → (∀ x : Str, x ≠ "order" → x ≠ "other" → m' x = m0 x) → m' "order" = some (.ref l) → ρ' l = some (.list vs) → IL vs (om.getD (keepLast ((V.wo g).walk i).tail)) → St C ρ' τ ((L, .fr "frame" m') :: loσ L od dq kvo kvq) s' → Q .next s') :
    wpAny C.M A (exec (nthS (foBody (nthS (topF 18).body 2)) 3) (loE L a cdv)) Q E s := by
  refine wpAny_If (xCmp (ldL S rfl q3 (cNone ?_)))
  cases om with
  | some ns =>
    obtain ⟨l, vs, hv, hl, hvs⟩ := ho
    rw [hv] at q3 ⊢
    refine wpAny_is_other rfl (fun q => nomatch q) (wpAny_truthy_bool ?_)
    rw [if_neg Bool.false_ne_true]
    exact wpAny_execs_nil (hOk m0 ρ l vs s (.refl _) (fun _ _ _ => rfl) q3 hl hvs S)
  | none =>
    have hv : v = .none := ho
    rw [hv]
    refine wpAny_is_self rfl (wpAny_truthy_bool ?_)
    rw [if_pos rfl]
    refine xcons (xAsg (eList ⟨_, _, _, S, Nat.zero_le _, fun l0 s' S => stL S rfl fun s' S => ?_⟩))
    have S : St C ρ τ ((L, .fr "frame" (m0.put "order" (.ref l0))) :: loσ L od dq kvo kvq ++ [(l0, .list [])]) s' := S
    refine xcons (xFor (xSub (Call_ (ldG S (T.glob _ _ rfl) (cwK TL.fWalk.keep (ldL S rfl q1 (ldL S rfl q2 ⟨S.amb.x, callC ?_⟩)))))))
    refine lWalk_ok T TL O Wl 6 hi (O.rk6 i hi) S (r.le (by decide)) hh fun l1 v1 s' hv1 S => ?_
    have hwl := walk_len O hi
    have hv1z : v1.length ≤ Big := by rw [hv1.len]; exact Nat.le_trans hwl (by decide)
    refine wpAny_Slice (wpAny_pure ?_)
    rw [evalPart_some]
    refine cInt (i := 0) S fun t1 s' S => ?_
    rw [evalPart_some]
    refine UnaryOp_ (cInt (i := 1) S fun t2 s' S => P.neg_int ?_)
    have S := S.tok (s'.toks + 1)
    refine sSlice (lo := none) (hi := some 0) (st := some (-1)) S (S.at 6 rfl) .none (.int _ _) (.int _ _) (by decide) hv1z fun r2 s' S => ?_
    rw [pick_back] at S
    have hv2 : IL v1.tail.reverse (((V.wo g).walk i).tail.reverse) := by
      have := (hv1.drop 1).rev
      rw [List.drop_one, List.drop_one] at this; exact this
    generalize v1.tail.reverse = v2 at S hv2
    have S : St C ρ τ ((L, .fr "frame" (m0.put "order" (.ref l0))) :: loσ L od dq kvo kvq ++ [(r2, .list v2), (l0, .list [])]) s' := by
      have S : St C ρ τ ((L, .fr "frame" (m0.put "order" (.ref l0))) :: loσ L od dq kvo kvq ++ [(l0, .list []), (r2, .list v2)]) s' := S.sub (List.Sublist.append (List.Sublist.append_left (List.Sublist.cons_cons _ (List.Sublist.cons _ (.refl _))) _) (.refl _))
      exact S.perm (List.Perm.append_right _ (List.Perm.append_left _ (.swap _ _ _)))
    have hwt : ((V.wo g).walk i).tail.length ≤ 46656 := by rw [List.length_tail]; omega
    refine itList S (S.at 5 rfl) fun I s' S _ => ?_
    refine forLoop_t (α := LsS) (τ := τ) (E' := fun _ _ => False) (Wk.list hh I r2 v2) (fun _ => ρ) (fun y => (L, .fr "frame" y.m) :: loσ L od dq kvo kvq ++ [(r2, .list v2), (y.l, .list y.vs)])
      (LoF V g i m0) noE ?_ ⟨m0.put "order" (.ref l0), l0, [], []⟩ S ⟨fun x h1 _ => if_neg h1, rfl, IL.nil, rfl, Nat.zero_le _⟩ ?_ ?_
    · intro k y _ s P S; exact S.at 5 rfl
    · rintro k Qb Eb hQb hEb hRb ⟨mk, lk, vk, acc⟩ v s hv ⟨p1, p2, p3, p4, p5⟩ S
      dsimp only at p1 p2 p3 p4 p5 S
      obtain ⟨o, to, rfl, hoo⟩ := hv2.get hv
      have hk : k < 46656 := by
        have := (List.getElem?_eq_some_iff.mp hoo).1
        rw [List.length_reverse] at this; omega
      have hacc : acc.length ≤ k := by
        rw [p4]
        unfold kLast
        refine Nat.le_trans (kLast_len _ _) ?_
        rw [List.length_nil, List.length_take]; omega
      have hvk : vk.length ≤ 46656 := by rw [p3.len]; (with_reducible exact Nat.le_trans ‹_› ‹_›)
      have htk : (((V.wo g).walk i).tail.reverse).take (k + 1) = (((V.wo g).walk i).tail.reverse).take k ++ [o] := by rw [List.take_add_one, hoo]; rfl
      refine wpAny_of_eq (a := ()) rfl (wpAny_assign_Name (stL S rfl fun s' S => ?_))
      have p1' : ∀ x : Str, x ≠ "order" → x ≠ "other" → (mk.put "other" (.int (o : Nat) to)) x = m0 x := fun x h1 h2 => (if_neg h2).trans (p1 x h1 h2)
      have p2' : (mk.put "other" (.int (o : Nat) to)) "order" = some (.ref lk) := p2
      have p3' : (mk.put "other" (.int (o : Nat) to)) "other" = some (.int (o : Nat) to) := rfl
      have S : St C ρ ((I, litO r2 (k + 1)) :: τ) ((L, .fr "frame" (mk.put "other" (.int (o : Nat) to))) :: loσ L od dq kvo kvq ++ [(r2, .list v2), (lk, .list vk)]) s' := S
      generalize mk.put "other" (.int (o : Nat) to) = m2 at S p1' p2' p3'
      refine xcons (wpAny_If (xCmp (ldL S rfl p3' (ldL S rfl p2' (nInI (S.at 6 rfl) p3 (wpAny_truthy_bool ?_))))))
      by_cases hc : o ∈ acc
      · have : acc.contains o = true := by simpa using hc
        rw [this, if_neg (show ¬ ((!true) = true) from Bool.false_ne_true)]
        refine wpAny_execs_nil (wpAny_execs_nil (hQb ⟨m2, lk, vk, acc⟩ _ ⟨p1', p2', p3, ?_, by (with_reducible exact Nat.succ_le_of_lt ‹_›)⟩ S))
        show acc = _
        rw [htk, kLast_snoc, ← p4, if_pos hc]
      · have : acc.contains o = false := by simpa using hc
        rw [this, if_pos (show (!false) = true from rfl)]
        refine xcons (xAsg (xBin (eList (ldL S rfl p3' ⟨_, _, _, S, big1, fun l3 s' S => ldL S rfl p2' (oAddL S (S.at 7 rfl) (S.at 6 rfl) (by show 1 + vk.length ≤ 100000; omega) fun l4 s' S => stL S rfl fun s' S => ?_)⟩))))
        have S : St C ρ ((I, litO r2 (k + 1)) :: τ) ((L, .fr "frame" (m2.put "order" (.ref l4))) :: loσ L od dq kvo kvq ++ [(r2, .list v2), (l4, .list ([.int (o : Nat) to] ++ vk))]) s' :=
          S.sub (List.Sublist.append (List.Sublist.append_left (l := (L, AObj.fr "frame" (m2.put "order" (.ref l4))) :: loσ L od dq kvo kvq) (List.Sublist.cons_cons _ (List.Sublist.cons _ (List.Sublist.cons _ (.refl _))))) (.refl _))
        refine wpAny_execs_nil (wpAny_execs_nil (hQb ⟨m2.put "order" (.ref l4), l4, _, o :: acc⟩ _ ⟨fun x h1 h2 => (if_neg h1).trans (p1' x h1 h2), rfl, (IL.one o to).app p3, ?_, by (with_reducible exact Nat.succ_le_of_lt ‹_›)⟩ S))
        show o :: acc = _
        rw [htk, kLast_snoc, ← p4, if_neg hc]
    · rintro ⟨mk, lk, vk, acc⟩ s ⟨p1, p2, p3, p4, p5⟩ S
      dsimp only at p1 p2 p3 p4 p5 S
      have nl := S.none_of_nth 6 rfl
      have S := S.give 6 rfl
      have x3 : Ext ρ (upd ρ lk (.list vk)) := ext_upd _ nl
      have el : upd ρ lk (.list vk) lk = some (.list vk) := upd_self ..
      refine wpAny_execs_nil (wpAny_execs_nil (hOk mk _ lk vk s x3 p1 p2 el ?_ (S.sub inl_sub)))
      show IL vk (keepLast ((V.wo g).walk i).tail)
      rw [hv2.len, List.take_length, kLast_rev] at p4
      rw [← p4]; exact p3
theorem lo_settle (T : Text C a) {L od dq l : Addr} {cdv : Value} {m0 : Mp} {kvo kvq : List (Int × Value)} {b : Bool} {vs : List Value} {ns : List Nat} (S : St C ρ τ ((L, .fr "frame" m0) :: loσ L od dq kvo kvq) s)
    (q1 : m0 "settled" = some (.bool b)) (q3 : m0 "order" = some (.ref l)) (hl : ρ l = some (.list vs)) (hvs : IL vs ns) (hz : ns.length ≤ 46656) (hh : A.handled = none)
    (hOk : ∀ ρ' l' vs' s', Ext ρ ρ' → ρ' l' = some (.list vs') → IL vs' (if b then ns.filter (fun k => decide (k ≠ 5)) ++ [5] else ns) → St C ρ' τ ((L, .fr "frame" (m0.put "order" (.ref l'))) :: loσ L od dq kvo kvq) s' → Q .next s') :
    wpAny C.M A (exec (nthS (foBody (nthS (topF 18).body 2)) 4) (loE L a cdv)) Q E s := by
  refine wpAny_If (isTrue_plain (ldL S rfl q1 (wpAny_truthy_bool ?_)))
  cases b with
  | false =>
    rw [if_neg Bool.false_ne_true]
    refine wpAny_execs_nil (hOk ρ l vs s (.refl _) hl hvs ?_)
    have : m0.put "order" (.ref l) = m0 := by
      funext x
      unfold Mp.put
      split
      · rename_i e; rw [e, q3]
      · rfl
    rw [this]; exact S
  | true =>
    rw [if_pos rfl]
    refine xcons (xAsg (xBin ?_))
    refine listComp_st (τ := τ) (α := Unit) (E' := fun _ _ => False) (fun _ => ρ) (fun _ => (L, .fr "frame" m0) :: loσ L od dq kvo kvq)
      (fun k _ ys => IL ys ((ns.take k).filter fun k => decide (k ≠ 5))) rfl (by rfl) rfl (fun _ _ _ f => f.elim) ?_
    have hvz : vs.length ≤ Big := by rw [hvs.len]; exact Nat.le_trans hz (by decide)
    refine ldL S rfl q3 (itList S (S.o hl) fun I s' S _ => ⟨I, _, vs, _, (), rfl, Wk.list hh I l vs, hvz, S, IL.nil, ?_, ?_, ?_⟩)
    · rintro k y ys τ' σ' s _ S; exact S.o hl
    · rintro k _ v ys Lc D mc s hv hys hmv S
      obtain ⟨o, t, rfl, ho⟩ := hvs.get hv
      have htk : ns.take (k + 1) = ns.take k ++ [o] := by rw [List.take_add_one, ho]; rfl
      refine tests_one (xCmp (ldL S rfl hmv (cInt (i := 5) S fun t5 s' S => P.ne_int (wpAny_truthy_bool ?_))))
      by_cases hc : o = 5
      · have : (((o : Nat) : Int) != 5) = false := by rw [hc]; rfl
        rw [this, if_neg Bool.false_ne_true]
        refine ⟨(), ?_, S⟩
        rw [htk, List.filter_append]
        have : [o].filter (fun k => decide (k ≠ 5)) = [] := by simp [hc]
        rw [this, List.append_nil]; exact hys
      · have : (((o : Nat) : Int) != 5) = true := by
          rw [bne_iff_ne]; omega
        rw [this, if_pos rfl]
        refine ldL S rfl hmv ⟨(), ?_, S⟩
        rw [htk, List.filter_append]
        have : [o].filter (fun k => decide (k ≠ 5)) = [o] := by simp [hc]
        rw [this]; exact hys.app (IL.one o t)
    · rintro _ ys D s hys S
      have hys : IL ys (ns.filter fun k => decide (k ≠ 5)) := by rw [hvs.len, List.take_length] at hys; exact hys
      have hyz : ys.length ≤ 46656 := by rw [hys.len]; exact Nat.le_trans (List.length_filter_le ..) hz
      refine eList (cInt (i := 5) S fun t5 s' S => ⟨_, _, _, S, big1, fun l5 s' S => oAddL S (S.at 5 rfl) (S.at 6 rfl) (by show ys.length + 1 ≤ 100000; ((with_reducible refine oz1 ‹_› ?_); exact rfl)) fun l6 s' S => ?_⟩)
      refine S.giveE 7 rfl fun ρ3 x3 el S => ?_
      refine stL S rfl fun s' S => wpAny_execs_nil (hOk ρ3 l6 _ s' x3 el (hys.app (IL.one 5 t5)) (S.sub inl_sub))
theorem lo_store (T : Text C a) {L od dq l : Addr} {cdv : Value} {m0 : Mp} {kvo kvq : List (Int × Value)} {as : List (Nat × List Nat)} {vs : List Value} {ns : List Nat} {i : Nat} {t : Tok} (S : St C ρ τ ((L, .fr "frame" m0) :: loσ L od dq kvo kvq) s)
    (q2 : m0 "node" = some (.int (i : Nat) t)) (q3 : m0 "order" = some (.ref l)) (hl : ρ l = some (.list vs)) (hvs : IL vs ns) (hz : ns.length ≤ 50000) (hA : AhAt ρ kvo as) (hn : agetO as i = none) (hk : kvo.length ≤ 10)
    (hOk : ∀ ρ' kvo' s', Ext ρ ρ' → AhAt ρ' kvo' (as ++ [(i, i :: ns)]) → St C ρ' τ ((L, .fr "frame" m0) :: loσ L od dq kvo' kvq) s' → Q .next s') :
    wpAny C.M A (exec (nthS (foBody (nthS (topF 18).body 2)) 5) (loE L a cdv)) Q E s := by
  have hv0 : valueAt kvo (i : Int) = none := by
    rcases hA.get (n := i) with q | ⟨_, _, _, q, _⟩
    · exact q.2
    · rw [hn] at q; cases q
  have hvz : vs.length ≤ 50000 := by rw [hvs.len]; exact hz
  refine wpAny_Assign_Subscript (xBin (eList (ldL S rfl q2 ⟨_, _, _, S, big1, fun l3 s' S => ldL S rfl q3 (oAddL S (S.at 5 rfl) (S.o hl) (by show 1 + vs.length ≤ 100000; omega) fun l4 s' S => ldC S 1 rfl (ldL S rfl q2 (hDSet (S.at 3 rfl) (Nat.le_trans hk (by decide)) fun s' cg tt => ?_)))⟩)))
  have S := S.setL 3 rfl cg tt
  rw [stored_new hv0] at S
  refine S.giveE 6 rfl fun ρ3 x3 el S => ?_
  exact hOk ρ3 _ s' x3 (AhAt.app el ((IL.one i t).app hvs) (hA.ext x3)) (S.sub (inl_sub (ext := [(l3, .list [.int (i : Nat) t])])))
end
end Mine
end
section
open PySem PySem.W PyProof.Rows PySem.Calls
set_option Elab.async false
set_option genSizeOf false
set_option genInjectivity false
set_option maxRecDepth 100000
set_option linter.unusedVariables false
set_option linter.unusedSimpArgs false
set_option maxHeartbeats 4000000
namespace Mine
open PySem (Sem Str Value Heap Obj Shared)
structure RkOk (live : Nat → Prop) (bs : Nat → List Nat) (ranked : List Nat) : Prop where
  nd : (5 :: ranked).Nodup
  low : ∀ k i, ranked[k]? = some i → ∀ b, b ∈ bs i → b ∈ 5 :: ranked.take k
  live : ∀ i, i ∈ ranked → live i
  len : ranked.length ≤ 5
noncomputable def oK (f : Nat → List Nat) (ks : List Nat) : List (Nat × List Nat) := ks.map fun n => (n, f n)
noncomputable def qK (q : Nat → Bool) (ks : List Nat) : List (Int × Value) := ks.map (fun n : Nat => ((n : Int), Value.bool (q n)))
theorem oK_get {f : Nat → List Nat} {n : Nat} : ∀ {ks : List Nat}, agetO (oK f ks) n = if n ∈ ks then some (f n) else none
  | [] => rfl
  | k :: ks => by
    have ih := oK_get (f := f) (n := n) (ks := ks)
    unfold agetO oK at ih ⊢
    rw [List.map_cons, List.find?_cons]
    by_cases q : k = n
    · simp [q]
    · have q' : ¬ n = k := fun e => q e.symm
      simp only [q, decide_false, List.mem_cons, q', false_or]
      exact ih
theorem qK_get {q : Nat → Bool} {n : Nat} : ∀ {ks : List Nat}, valueAt (qK q ks) (n : Int) = if n ∈ ks then some (.bool (q n)) else none
  | [] => rfl
  | k :: ks => by
    have ih := qK_get (q := q) (n := n) (ks := ks)
    unfold valueAt qK at ih ⊢
    rw [List.map_cons, List.find?_cons]
    by_cases w : k = n
    · simp [w]
    · have w' : ¬ n = k := fun e => w e.symm
      have w2 : ¬ (k : Int) = (n : Int) := by omega
      simp only [w2, decide_false, List.mem_cons, w', false_or]
      exact ih
theorem oK_app (f : Nat → List Nat) (ks : List Nat) (n : Nat) : oK f ks ++ [(n, f n)] = oK f (ks ++ [n]) := by simp [oK]
theorem qK_app (q : Nat → Bool) (ks : List Nat) (n : Nat) : qK q ks ++ [((n : Int), .bool (q n))] = qK q (ks ++ [n]) := by simp [qK]
theorem turns_len (row : List Nat) : ∀ (l : List Nat) (as : List (Nat × List Nat)), (l.foldl (aTurn row) as).length ≤ as.length + l.length
  | [], as => Nat.le_refl _
  | k :: l, as => by
    rw [List.foldl_cons]
    refine Nat.le_trans (turns_len row l _) ?_
    have : (aTurn row as k).length ≤ as.length + 1 := by
      unfold aTurn
      split
      · exact aput_length ..
      · (with_reducible exact Nat.le_add_right _ _)
    rw [List.length_cons]; omega
theorem rows_len : ∀ (rows : List (List Nat)) (as : List (Nat × List Nat)), (∀ r, r ∈ rows → r.length ≤ 10) → (rows.foldl aRow as).length ≤ as.length + 10 * rows.length
  | [], as, _ => Nat.le_refl _
  | r :: rows, as, h => by
    rw [List.foldl_cons]
    refine Nat.le_trans (rows_len rows _ fun q hq => h q (.tail _ hq)) ?_
    have h1 := turns_len r (List.range r.length) as
    rw [List.length_range] at h1
    have h2 := h r (.head _)
    have : (aRow as r).length ≤ as.length + r.length := h1
    rw [List.length_cons]; omega
theorem lGo_len {as : List (Nat × List Nat)} {rows : List (List Nat)} : ∀ (n : Nat) (order ns : List Nat), order.length ≤ as.length → lGo as rows n order = some ns → ns.length ≤ as.length
  | 0, _, _, _, h => by cases h
  | n + 1, order, ns, ho, h => by
    rw [lGo] at h
    split at h
    · rename_i hlt
      split at h
      · cases h
      · exact lGo_len n _ ns (by rw [List.length_append, List.length_singleton]; (with_reducible exact Nat.succ_le_of_lt ‹_›)) h
    · cases h; exact ho
theorem lMerge_len {rows : List (List Nat)} {ns : List Nat} (h1 : rows.length ≤ 10) (h2 : ∀ r, r ∈ rows → r.length ≤ 10) (h : lMerge rows = some ns) : ns.length ≤ 1000 := by
  have h3 := lGo_len _ _ _ (Nat.zero_le _) h
  have h4 := rows_len rows [] h2
  have h5 : (aAll rows).length ≤ 10 * rows.length := by simpa [aAll] using h4
  omega
structure LoS where
  m : Mp
  ρ : Wd
  kvo : List (Int × Value)
  kvq : List (Int × Value)
section
variable {C : Cx} {a : Adr} {ρ : Wd} {τ σ : Lc} {s : Shared} {A : Around} {E : Value → Shared → Prop} {R : Result → Shared → Prop}
structure LoP (V : Vo) (g : Gs) (w : Addr) (b : Bool) (ρ1 : Wd) (ranked : List Nat) (k : Nat) (y : LoS) : Prop where
  f1 : y.m "world" = some (.ref w)
  f2 : y.m "settled" = some (.bool b)
  f3 : Ext ρ1 y.ρ
  f4 : AhAt y.ρ y.kvo (oK (lOrd b (V.wo g)) (5 :: ranked.take k))
  f5 : y.kvq = qK (lQ b (V.wo g)) (5 :: ranked.take k)
theorem lOrders_ok {V : Vo} {g : Gs} {ranked : List Nat} {w ls lb0 lr : Addr} {bl : List Addr} {vr : List Value} {b : Bool} (T : Text C a) (TL : TextL C a) (O : (V.wo g).Ok) (Wl : WorldAt ρ V g.bs ranked w ls lb0 lr bl vr) (K : RkOk V.live g.bs ranked)
    (hsz : ∀ i, V.live i → (lOrd b (V.wo g) i).length ≤ 10) (h5 : V.live 5) (S : St C ρ τ σ s) (r : Rm A 8) (hh : A.handled = none)
    (hOk : ∀ l od dq kvo ρ' s', Ext ρ ρ' → ρ' od = some (.idict kvo) → ρ' dq = some (.idict (qK (lQ b (V.wo g)) (5 :: ranked))) → AhAt ρ' kvo (oK (lOrd b (V.wo g)) (5 :: ranked)) → St C ρ' τ (σ ++ [(l, .tup [.ref od, .ref dq])]) s' → R (.ok (.ret (.ref l))) s') :
    codeAny C.M A (.call (.ref a.lOrders) ⟨[.ref w, .bool b], []⟩) R s := by
  refine enter S TL.fOrders r.d (binds := [("world", .ref w), ("settled", .bool b)]) (fun _ _ _ _ _ _ => BindsTo.of_eq rfl) fun L cdv s' S => ?_
  refine pk3 (P1 := fun (m0 : Mp) => St C ρ (σ ++ τ) [(L, .fr "frame" m0), (L + 2, .cell none), (L + 1, .cell none)] s') (P2 := fun (m0 : Mp) => m0 "world" = some (.ref w)) (P3 := fun (m0 : Mp) => m0 "settled" = some (.bool b)) _ (S) (rfl) (rfl) fun m0 S q1 q2 => ?_
  have S : St C ρ (σ ++ τ) [(L, .fr "frame" m0), (L + 1, .cell none), (L + 2, .cell none)] s' := S.perm (List.Perm.append_right _ ((List.Perm.swap _ _ _).cons _))
  refine xcons ?_
  refine xAsg (Q := _) ?_ ?_
  rotate_left
  · rfl
  with_reducible refine eDictI S ?_ ?_ ?_ ?_ ?_
  rotate_left
  · rfl
  · rfl
  · exact fun q => nomatch q
  · decide
  intro od s' S
  refine pairTrees_cons_walk (cInt (i := 5) S fun t1 s' S => eList (cInt (i := 5) S fun t2 s' S => ⟨_, _, _, S, big1, fun l5 s' S => pairTrees_nil_walk ⟨rfl, List.nodup_cons.mpr ⟨(fun h => nomatch h), List.nodup_nil⟩, S.at 3 rfl, fun s' cg tt => ?_⟩⟩))
  have S := S.setL 3 rfl cg tt
  refine S.giveE 4 rfl fun ρ1 x1 el S => ?_
  refine stC S 1 rfl fun s' S => ?_
  refine xcons ?_
  refine xAsg (Q := _) ?_ ?_
  rotate_left
  · rfl
  with_reducible refine eDictI S ?_ ?_ ?_ ?_ ?_
  rotate_left
  · rfl
  · rfl
  · exact fun q => nomatch q
  · decide
  intro dq s' S
  refine pairTrees_cons_walk (cInt (i := 5) S fun t1 s' S => cBool (pairTrees_nil_walk ⟨rfl, List.nodup_cons.mpr ⟨(fun h => nomatch h), List.nodup_nil⟩, S.at 4 rfl, fun s' cg tt => ?_⟩))
  have S := S.setL 4 rfl cg tt
  refine stC S 2 rfl fun s' S => ?_
  have S : St C ρ1 (σ ++ τ) ((L, .fr "frame" m0) :: loσ L od dq [(5, .ref l5)] (qK (lQ b (V.wo g)) [5])) s' := by
    have e : qK (lQ b (V.wo g)) [5] = [((5 : Int), Value.bool true)] := by
      unfold qK
      rw [List.map_cons, List.map_nil, lQ_five]; rfl
    rw [e]; exact S
  have hA : AhAt ρ1 [(5, .ref l5)] (oK (lOrd b (V.wo g)) [5]) := by
    refine ⟨⟨rfl, l5, _, rfl, el, ?_⟩, trivial⟩
    show IL [.int 5 t2] (lOrd b (V.wo g) 5)
    rw [lOrd_five]; exact IL.one 5 t2
  have Wl1 := Wl.ext x1
  refine xcons (xFor (xSub (ldL S rfl q1 ?_)))
  refine cStr S fun t1 s' S => sSGet S (S.o Wl1.w) rfl fun s' S => itList S (S.o Wl1.rk) fun I s' S _ => ?_
  refine forLoop_t (α := LoS) (τ := σ ++ τ) (E' := fun _ _ => False) (Wk.list (by exact hh) I lr vr) (fun y => y.ρ) (fun y => (L, .fr "frame" y.m) :: loσ L od dq y.kvo y.kvq)
    (LoP V g w b ρ1 ranked) noE ?_ ⟨m0, ρ1, _, _⟩ S ⟨q1, q2, .refl _, hA, rfl⟩ ?_ ?_
  · intro k y _ s P S; exact S.o (P.f3 _ _ Wl1.rk)
  · rintro k Qb Eb hQb hEb hRb ⟨mk, ρk, kvo, kvq⟩ v s hv ⟨p1, p2, p3, p4, p5⟩ S
    dsimp only at p1 p2 p3 p4 p5 S
    obtain ⟨i, ti, rfl, hi⟩ := Wl1.rki.get hv
    have him := List.mem_of_getElem? hi
    have hil := K.live i him
    have hi6 := O.six i hil
    have Wk' := Wl1.ext p3
    obtain ⟨lbi, vb, hbl, hvb, hib⟩ := Wk'.row hi6
    have hnk : i ∉ 5 :: ranked.take k := by
      have nd := K.nd
      rw [List.nodup_cons] at nd
      rintro q
      rcases List.mem_cons.mp q with q | q
      · exact nd.1 (q ▸ him)
      · obtain ⟨k', hk'⟩ := List.mem_iff_getElem?.mp q
        have hlt := (List.getElem?_eq_some_iff.mp hk').1
        rw [List.length_take] at hlt
        rw [List.getElem?_take_of_lt (by omega)] at hk'
        have := (List.getElem?_inj (by omega) nd.2).mp (hk'.trans hi.symm)
        omega
    have hi5 : i ≠ 5 := fun q => hnk (q ▸ .head _)
    have hk5 : (5 :: ranked.take k).length ≤ 6 := by
      rw [List.length_cons, List.length_take]; have := K.len; omega
    have hkvo : kvo.length ≤ 10 := by rw [p4.len, oK, List.length_map]; ((with_reducible refine oz2 ‹_› ?_); exact rfl)
    have hb5 : (g.bs i).length ≤ 5 := O.len i hil
    have htk : 5 :: ranked.take (k + 1) = (5 :: ranked.take k) ++ [i] := by rw [List.take_add_one, hi]; rfl
    refine wpAny_of_eq (a := ()) rfl (wpAny_assign_Name (stL S rfl fun s' S => ?_))
    refine xcons (xAsg (xSub (xSub (ldL S rfl p1 ?_))))
    refine cStr S fun t2 s' S => sSGet S (S.o Wk'.w) rfl fun s' S => ldL S rfl rfl ?_
    refine sIdx (v := .ref lbi) (S.o Wk'.bases) (by rw [Int.toNat_natCast, List.getElem?_map, hbl]; rfl) (by (with_reducible exact Int.natCast_nonneg _)) (by ((with_reducible refine oz6 ‹_› ?_); exact rfl)) (stL S rfl fun s' S => ?_)
    refine pk5 (P1 := fun (m1 : Mp) => St C ρk ((I, litO lr (k + 1)) :: (σ ++ τ)) ((L, .fr "frame" m1) :: loσ L od dq kvo kvq) s') (P2 := fun (m1 : Mp) => m1 "world" = some (.ref w)) (P3 := fun (m1 : Mp) => m1 "settled" = some (.bool b)) (P4 := fun (m1 : Mp) => m1 "node" = some (.int (i : Nat) ti)) (P5 := fun (m1 : Mp) => m1 "bases" = some (.ref lbi)) ((mk.put "node" (.int (i : Nat) ti)).put "bases" (.ref lbi)) (S) (p1) (p2) (rfl) (rfl) fun m1 S p1 p2 p6 p7 => ?_
    refine xcons (lo_merge (f := lOrd b (V.wo g)) T TL S p7 hvb hib hb5 p4 (fun c hc => ?_) ((r.deeper (n := 7) _).le (by decide)) hh fun ρ2 v s' x2 ho S => ?_)
    · have hcm := K.low k i hi c hc
      refine ⟨by rw [oK_get, if_pos hcm], hsz c ?_⟩
      exact (O.cl i hil c hc).1
    have hmerge : lMerge ((g.bs i).map (lOrd b (V.wo g)) ++ [g.bs i]) = lMerge (((V.wo g).bs i).map (lOrd b (V.wo g)) ++ [(V.wo g).bs i]) := rfl
    have hq0 : valueAt kvq (i : Int) = none := by rw [p5, qK_get, if_neg hnk]
    refine xcons (lo_quiet (m0 := m1.put "order" v) (q := lQ b (V.wo g)) T S p7 p6 rfl ho (x2 _ _ hvb) hib hb5 (fun c hc => ?_) hq0 (by rw [p5, qK, List.length_map]; ((with_reducible refine oz2 ‹_› ?_); exact rfl)) hh fun s' S => ?_)
    · rw [p5, qK_get, if_pos (K.low k i hi c hc)]
    have hqe : kvq ++ [((i : Int), Value.bool ((lMerge ((g.bs i).map (lOrd b (V.wo g)) ++ [g.bs i])).isSome && (g.bs i).all (lQ b (V.wo g))))] = qK (lQ b (V.wo g)) (5 :: ranked.take (k + 1)) := by
      rw [htk, ← qK_app, p5, lQ_eq O hil hi5]; rfl
    rw [hqe] at S
    refine xcons (lo_if (m0 := m1.put "order" v) T TL O (Wk'.ext x2) S p1 p6 rfl ho hil ((r.deeper (n := 7) _).le (by decide)) hh fun m3 ρ3 l3 v3 s' x3 hm3 ho3 hl3 hv3 S => ?_)
    have p1' : m3 "world" = some (.ref w) := (hm3 _ (by decide) (by decide)).trans p1
    have p2' : m3 "settled" = some (.bool b) := (hm3 _ (by decide) (by decide)).trans p2
    have p6' : m3 "node" = some (.int (i : Nat) ti) := (hm3 _ (by decide) (by decide)).trans p6
    have hord : lOrd b (V.wo g) i = i :: oTail b (g.bs i) ((V.wo g).walk i).tail (lOrd b (V.wo g)) := lOrd_eq O hil hi5
    have hz10 := hsz i hil
    have hsz3 : ((lMerge ((g.bs i).map (lOrd b (V.wo g)) ++ [g.bs i])).getD (keepLast ((V.wo g).walk i).tail)).length ≤ 46656 := by
      rw [hord, List.length_cons] at hz10
      have hwl := walk_len O hil
      cases hm : lMerge ((g.bs i).map (lOrd b (V.wo g)) ++ [g.bs i]) with
      | none =>
        show (keepLast _).length ≤ _
        have : ∀ l : List Nat, (keepLast l).length ≤ l.length := by
          intro l
          induction l with
          | nil => exact Nat.le_refl _
          | cons x l ih =>
            rw [keepLast_cons]
            split
            · rw [List.length_cons]; (with_reducible exact Nat.le_succ_of_le ‹_›)
            · rw [List.length_cons, List.length_cons]; (with_reducible exact Nat.succ_le_succ ‹_›)
        refine Nat.le_trans (this _) ?_
        rw [List.length_tail]; omega
      | some ns =>
        show ns.length ≤ _
        unfold oTail at hz10
        rw [hm] at hz10
        cases b with
        | false => exact Nat.le_trans (Nat.le_of_lt hz10) (by decide)
        | true =>
          have hz10 : (ns.filter (fun k => decide (k ≠ 5)) ++ [5]).length + 1 ≤ 10 := hz10
          rw [List.length_append, List.length_singleton] at hz10
          have hnd : ns.length ≤ 1000 := lMerge_len (rows := (g.bs i).map (lOrd true (V.wo g)) ++ [g.bs i]) (by rw [List.length_append, List.length_map]; simp; ((with_reducible refine oz2 ‹_› ?_); exact rfl)) (fun q hq => by
            rcases List.mem_append.mp hq with hq | hq
            · obtain ⟨c, hc, rfl⟩ := List.mem_map.mp hq
              exact hsz c (O.cl i hil c hc).1
            · cases List.mem_singleton.mp hq; ((with_reducible refine oz2 ‹_› ?_); exact rfl)) hm
          exact Nat.le_trans hnd (by decide)
    refine xcons (lo_settle T S p2' ho3 hl3 hv3 hsz3 hh fun ρ4 l4 v4 s' x4 hl4 hv4 S => ?_)
    have hns : (if b then ((lMerge ((g.bs i).map (lOrd b (V.wo g)) ++ [g.bs i])).getD (keepLast ((V.wo g).walk i).tail)).filter (fun k => decide (k ≠ 5)) ++ [5] else (lMerge ((g.bs i).map (lOrd b (V.wo g)) ++ [g.bs i])).getD (keepLast ((V.wo g).walk i).tail)) = oTail b (g.bs i) ((V.wo g).walk i).tail (lOrd b (V.wo g)) := rfl
    rw [hns] at hv4
    have XA := (x2.trans x3).trans x4
    refine xcons (lo_store (m0 := Mp.put m3 "order" (.ref l4)) T S p6' rfl hl4 hv4 ?_ (p4.ext XA) (by rw [oK_get, if_neg hnk]) hkvo fun ρ5 kvo' s' x5 hA5 S => ?_)
    · rw [hord, List.length_cons] at hz10; ((with_reducible refine oz3 ‹_› ?_); exact rfl)
    refine wpAny_execs_nil (hQb ⟨Mp.put m3 "order" (.ref l4), ρ5, kvo', qK (lQ b (V.wo g)) (5 :: ranked.take (k + 1))⟩ _ ⟨p1', p2', (p3.trans XA).trans x5, ?_, rfl⟩ S)
    show AhAt ρ5 kvo' (oK (lOrd b (V.wo g)) (5 :: ranked.take (k + 1)))
    rw [htk, ← oK_app, hord]; exact hA5
  · rintro ⟨mk, ρk, kvo, kvq⟩ s ⟨p1, p2, p3, p4, p5⟩ S
    dsimp only at p1 p2 p3 p4 p5 S
    rw [Wl1.rki.len, List.take_length] at p4 p5
    subst p5
    refine wpAny_execs_nil (xcons (wpAny_Return_some (eTup (ldC S 1 rfl (ldC S 2 rfl ⟨_, _, _, S, (by show 2 ≤ 100000; decide), fun l s' S => ?_⟩)))))
    refine S.giveE 3 rfl fun ρ6 y1 eo S => ?_
    refine S.giveE 3 rfl fun ρ7 y2 eq S => ?_
    exact hOk l od dq kvo ρ7 s' (((x1.trans p3).trans y1).trans y2) (y2 _ _ eo) eq (p4.ext (y1.trans y2)) (St.back (S.sub (List.Sublist.cons _ (List.Sublist.cons _ (List.Sublist.cons _ (.refl _))))))
end
end Mine
end
section
open PySem PySem.W PyProof.Rows PySem.Calls
set_option Elab.async false
set_option maxRecDepth 100000
set_option linter.unusedVariables false
set_option linter.unusedSimpArgs false
set_option maxHeartbeats 4000000
namespace Mine
open PySem (Sem Str Value Heap Obj Shared)
theorem idxOf_at {a : Int} : ∀ {l : List Int} {i : Nat}, l[i]? = some a → (∀ j, j < i → l[j]? ≠ some a) → l.idxOf a = i
  | b :: l, 0, h, _ => by
    have : b = a := by simpa using h
    rw [this, List.idxOf_cons_self]
  | b :: l, i + 1, h, hn => by
    have hb : b ≠ a := fun q => hn 0 (Nat.zero_lt_succ _) (by rw [q]; rfl)
    have ih := idxOf_at (l := l) (i := i) (by simpa using h) fun j hj => by
      have := hn (j + 1) (Nat.succ_lt_succ hj)
      simpa using this
    rw [List.idxOf_cons, ih]
    have : (b == a) = false := by simpa using hb
    rw [this]; rfl
theorem six_key {V : Vo} (O : V.Ok) (hall : ∀ i, i < 6 → V.live i) {i : Nat} (hi : i < 6) : V.key i ∈ six.map V.key ∧ (six.map V.key).idxOf (V.key i) = i := by
  have h1 : (six.map V.key)[i]? = some (V.key i) := by rw [List.getElem?_map, six_get hi]; rfl
  refine ⟨List.mem_of_getElem? h1, idxOf_at h1 fun j hj q => ?_⟩
  have hj6 : j < 6 := by omega
  rw [List.getElem?_map, six_get hj6] at q
  have := O.kinj j i (hall j hj6) (hall i hi) (Option.some.inj q)
  omega
section
variable {C : Cx} {a : Adr} {ρ : Wd} {τ σ : Lc} {s : Shared} {A : Around} {E : Value → Shared → Prop} {Q : Value → Shared → Prop} {R : Result → Shared → Prop} {V : Vo}
noncomputable def RowV (ρ : Wd) (V : Vo) (l : Addr) (xs : List Nat) : Prop := ρ l = some (.list (V.refs xs)) ∨ ρ l = some (.tup (V.refs xs))
theorem itRow {l : Addr} {xs : List Nat} (S : St C ρ τ σ s) (hh : A.handled = none) (hr : RowV ρ V l xs)
    (h : ∀ I it dep s', Wk C A I it (V.refs xs) dep → (∀ {τ σ} {s : Shared}, St C ρ τ σ s → dep s.heap) → St C ρ ((I, it 0) :: τ) σ s' → Q (.ref I) s') : wpAny C.M A (pyIter (.ref l)) Q E s := by
  rcases hr with hr | hr
  · exact itList S (S.o hr) fun I s' S _ => h I _ _ s' (Wk.list hh I l (V.refs xs)) (fun S => S.o hr) S
  · exact itTup S (S.o hr) fun I s' S _ => h I _ _ s' (Wk.tup hh I l (V.refs xs)) (fun S => S.o hr) S
theorem lNumbers_ok {g : Gs} {bs : Nat → List Nat} {ranked : List Nat} {w ls lb0 lr : Addr} {bl : List Addr} {vr : List Value} (T : Text C a) (TL : TextL C a) (O : V.Ok) (SX : Spx ρ a V g) (hall : ∀ i, i < 6 → V.live i) (Wl : WorldAt ρ V bs ranked w ls lb0 lr bl vr)
    {l : Addr} {xs : List Nat} (hr : RowV ρ V l xs) (hx : ∀ k, k ∈ xs → V.live k) (hz : xs.length ≤ Big) (S : St C ρ τ σ s) (r : Rm A 1) (hh : A.handled = none)
    (hOk : ∀ l' vs s', IL vs xs → St C ρ τ (σ ++ [(l', .list vs)]) s' → R (.ok (.ret (.ref l'))) s') :
    codeAny C.M A (.call (.ref a.lNumbers) ⟨[.ref w, .ref l], []⟩) R s := by
  refine enter S TL.fNumbers r.d (binds := [("world", .ref w), ("row", .ref l)]) (fun _ _ _ _ _ _ => BindsTo.of_eq rfl) fun L cdv s' S => ?_
  refine pk3 (P1 := fun (m0 : Mp) => St C ρ (σ ++ τ) [(L, .fr "frame" m0), (L + 1, .cell none)] s') (P2 := fun (m0 : Mp) => m0 "world" = some (.ref w)) (P3 := fun (m0 : Mp) => m0 "row" = some (.ref l)) _ (S) (rfl) (rfl) fun m0 S q1 q2 => ?_
  refine xcons (xAsg ?_)
  refine listComp_st (τ := σ ++ τ) (α := Unit) (E' := fun _ _ => False) (fun _ => ρ) (fun _ => [(L, .fr "frame" m0), (L + 1, .cell none)])
    (fun k _ ys => IntsAre ys ((six.take k).map V.key)) rfl (by rfl) rfl (fun _ _ _ f => f.elim) ?_
  refine xSub (ldL S rfl q1 ?_)
  refine cStr S fun t1 s' S => sSGet S (S.o Wl.w) rfl fun s' S => itList S (S.o Wl.specs) fun I s' S _ => ⟨I, _, V.refs six, _, (), rfl, Wk.list (by exact hh) I ls (V.refs six), (show 6 ≤ 100000 by decide), S, IntsAre.nil, ?_, ?_, ?_⟩
  · rintro k _ ys τ' σ' s _ S; exact S.o Wl.specs
  · rintro k _ v ys Lc D mc s hv hys hmv S
    obtain ⟨j, hj, rfl⟩ : ∃ j, six[k]? = some j ∧ v = .ref (V.x j) := by
      rw [Vo.refs, List.getElem?_map, Option.map_eq_some_iff] at hv
      obtain ⟨x, e, q⟩ := hv; exact ⟨x, e, q.symm⟩
    have hj6 : j < 6 := by
      have := List.mem_of_getElem? hj
      simp [six] at this; omega
    obtain ⟨e1, ⟨z, m, e2, _, M⟩, _, _⟩ := SX j (hall j hj6)
    obtain ⟨tk, hk⟩ := M.key
    refine tests_nil ?_
    rw [if_pos rfl]
    refine xAttr (ldL S rfl hmv (gOwn S e1 e2 (T.icOwn _ rfl) hk fun s' S => ⟨(), ?_, S⟩))
    rw [List.take_add_one, hj, List.map_append]
    exact IntsAre.append hys (IntsAre.cons _ _ IntsAre.nil)
  rintro _ ys D s hys S
  have hys : IntsAre ys (six.map V.key) := by
    have : (V.refs six).length = six.length := List.length_map ..
    rw [this, List.take_length] at hys; exact hys
  have hyl : ys.length = 6 := by have := hys.length; rw [this]; rfl
  refine stC S 1 rfl fun s' S => ?_
  have S : St C ρ (σ ++ τ) [(L, .fr "frame" m0), (L + 1, .cell (some (.ref D))), (D, .list ys)] s' := S
  refine xcons (wpAny_Return_some ?_)
  refine listComp_st (τ := σ ++ τ) (α := Unit) (E' := fun _ _ => False) (fun _ => ρ) (fun _ => [(L, .fr "frame" m0), (L + 1, .cell (some (.ref D))), (D, .list ys)])
    (fun k _ zs => IL zs (xs.take k)) rfl (by rfl) rfl (fun _ _ _ f => f.elim) ?_
  refine ldL S rfl q2 (itRow S (by exact hh) hr fun I it dep s' W hdep S => ⟨I, it, V.refs xs, dep, (), rfl, W, ?_, S, IL.nil, ?_, ?_, ?_⟩)
  · rw [Vo.refs, List.length_map]; exact hz
  · rintro k _ zs τ' σ' s _ S; exact hdep S
  · rintro k _ v zs Lc D2 mc s hv hzs hmv S
    obtain ⟨j, hj, rfl⟩ : ∃ j, xs[k]? = some j ∧ v = .ref (V.x j) := by
      rw [Vo.refs, List.getElem?_map, Option.map_eq_some_iff] at hv
      obtain ⟨x, e, q⟩ := hv; exact ⟨x, e, q.symm⟩
    have hjl := hx j (List.mem_of_getElem? hj)
    have hj6 := O.six j hjl
    refine Spx.el1 SX hjl fun e1 z m e2 _ M => ?_
    obtain ⟨tk, hk⟩ := M.key
    have hsk := six_key O hall hj6
    refine tests_nil ?_
    rw [if_pos rfl]
    refine xMeth (ldC S 2 rfl (gIndex (S.at 3 rfl) (cwB (xAttr (ldL S rfl hmv (gOwn S e1 e2 (T.icOwn _ rfl) hk fun s' S => bIndex S (S.at 3 rfl) hys hsk.1 (by rw [hyl]; decide) fun t s' S => ⟨(), ?_, S⟩))))))
    rw [hsk.2, List.take_add_one, hj]
    exact hzs.app (IL.one j t)
  · rintro _ zs D2 s hzs S
    have hzs : IL zs xs := by
      have : (V.refs xs).length = xs.length := List.length_map ..
      rw [this, List.take_length] at hzs; exact hzs
    exact hOk D2 zs s hzs (St.back (S.sub (List.Sublist.cons _ (List.Sublist.cons _ (List.Sublist.cons _ (.refl _))))))
end
end Mine
end
section
open PySem PySem.W PyProof.Rows PySem.Calls
set_option Elab.async false
set_option maxRecDepth 100000
set_option linter.unusedVariables false
set_option linter.unusedSimpArgs false
set_option maxHeartbeats 4000000
namespace Mine
open PySem (Sem Str Value Heap Obj Shared)
section
variable {C : Cx} {ρ : Wd} {τ σ : Lc} {s : Shared} {A : Around} {E : Value → Shared → Prop} {Q : Value → Shared → Prop}
theorem isList {l : Addr} {xs : List Value} (hl : s.heap.PlainList l xs.toArray) (h : Q (.bool true) s) : wpAny C.M A (call (.builtin "isinstance") [.ref l, .type "list"]) Q E s :=
  call_isinstance (isinstance_true (x := .ref l) (Tx := "list") (T := "list") (by kernel_rfl) (by rw [isSubtype_type]; kernel_rfl)) ⟨hl.isList.typeIs, h⟩
theorem bAppendO {l : Addr} {xs : List Value} {v : Value} (S : St C ρ τ σ s) (e : ρ l = some (.list xs)) (hz : xs.length ≤ Big) (h : ∀ s', St C (upd ρ l (.list (xs ++ [v]))) τ σ s' → Q .none s') : wpAny C.M A (call (.builtin "list.append") [.ref l, v]) Q E s :=
  wpAny_list_append_plain (S.o e) (fun h' hl hs => h _ (S.setO e ⟨hs.extBut, rfl, fun x => x⟩ (by show h'.PlainList l (xs ++ [v]).toArray; rw [← List.push_toArray]; exact hl))) (sz_toArray hz)
end
structure TellOk (V : Vo) (g : Gs) : Prop where
  f : ∀ i, V.live i → ovS false (V.wo g) (fun _ => none) i = some (lOrd false (V.wo g) i)
  t : ∀ i, V.live i → ovS true (V.wo g) (fun _ => none) i = if lQ false (V.wo g) i then some (lOrd false (V.wo g) i) else none
section
variable {C : Cx} {a : Adr} {ρ : Wd} {τ σ : Lc} {s : Shared} {A : Around} {E : Value → Shared → Prop} {Q : Value → Shared → Prop} {R : Result → Shared → Prop} {V : Vo} {g : Gs}
theorem ovS_none_ok (O : V.Ok) (G : g.Ok V) (b : Bool) : OvNd (V.wo g) (ovS b (V.wo g) fun _ => none) := ovS_nd (W := V.wo g) (G.wo O) fun _ _ _ h => nomatch h
theorem tell_len (O : V.Ok) (G : g.Ok V) (TE : TellOk V g) {i : Nat} (hi : V.live i) : (lOrd false (V.wo g) i).Nodup ∧ ∀ k, k ∈ lOrd false (V.wo g) i → V.live k :=
  let h := ovS_none_ok O G false i hi _ (TE.f i hi)
  ⟨h.1, fun k hk => (h.2 k hk).1⟩
theorem lPlain_ok {ranked : List Nat} {w ls lb0 lr : Addr} {bl : List Addr} {vr : List Value} {l : List Env} {i : Nat} {t : Tok} (T : Text C a) (TR : TextR C a) (TO : TextO C a) (TL : TextL C a) (O : V.Ok) (G : g.Ok V) (SX : Spx ρ a V g) (hall : ∀ i, i < 6 → V.live i) (Wl : WorldAt ρ V g.bs ranked w ls lb0 lr bl vr) (K : RkOk V.live g.bs ranked)
    (TE : TellOk V g) (hi : V.live i) (hir : i ∈ 5 :: ranked) (S : St C ρ τ σ s) (r : Rm A 60) (hh : A.handled = none) (hA : A.frames = some l) (hF : FrOk (σ ++ τ) l)
    (hOk : ∀ ρ' s', Ext ρ ρ' → St C ρ' τ σ s' → R (.ok (.ret (.bool true))) s') :
    codeAny C.M A (.call (.ref a.lPlain) ⟨[.ref w, .int (i : Nat) t], []⟩) R s := by
  have W : (V.wo g).Ok := G.wo O
  have hi6 := O.six i hi
  have hlen : ∀ j, V.live j → (lOrd false (V.wo g) j).length ≤ 6 := fun j hj => by
    have h := tell_len O G TE hj
    exact nodup_lt 6 _ h.1 fun k hk => O.six k (h.2 k hk)
  have hxi := tell_len O G TE hi
  refine enter S TL.fPlain r.d (binds := [("world", .ref w), ("node", .int (i : Nat) t)]) (fun _ _ _ _ _ _ => BindsTo.of_eq rfl) fun L cdv s' S => ?_
  refine pk3 (P1 := fun (m0 : Mp) => St C ρ (σ ++ τ) [(L, .fr "frame" m0)] s') (P2 := fun (m0 : Mp) => m0 "world" = some (.ref w)) (P3 := fun (m0 : Mp) => m0 "node" = some (.int (i : Nat) t)) _ (S) (rfl) (rfl) fun m0 S q1 q2 => ?_
  have rD : Rm (A.deeper (envX "_law_plain" (topF 20).scope L a.lPlain cdv (cellsFrom (L + 1) (topF 20).scope.names []))) 59 := r.deeper (n := 59) _
  have hAD : (A.deeper (envX "_law_plain" (topF 20).scope L a.lPlain cdv (cellsFrom (L + 1) (topF 20).scope.names []))).frames = some (envX "_law_plain" (topF 20).scope L a.lPlain cdv (cellsFrom (L + 1) (topF 20).scope.names []) :: l) := Around.frames_deeper hA
  refine xcons (Assign_Tuple (Call_ (ldG S (T.glob _ _ rfl) (cwK TL.fOrders.keep (ldL S rfl q1 (cBool ⟨S.amb.x, callC ?_⟩))))))
  refine lOrders_ok T TL W Wl K (fun j hj => Nat.le_trans (hlen j hj) (by decide)) (hall 5 (by decide)) S (rD.le (by decide)) hh fun lt od dq kvo ρ1 s' x1 eo eq hAo S => ?_
  refine asgTup2 S rfl (S.at 1 rfl) hh fun s' S => ?_
  refine pk5 (P1 := fun (m1 : Mp) => St C ρ1 (σ ++ τ) [(L, .fr "frame" m1)] s') (P2 := fun (m1 : Mp) => m1 "world" = some (.ref w)) (P3 := fun (m1 : Mp) => m1 "node" = some (.int (i : Nat) t)) (P4 := fun (m1 : Mp) => m1 "orders" = some (.ref od)) (P5 := fun (m1 : Mp) => m1 "quiet" = some (.ref dq)) ((m0.put "orders" (.ref od)).put "quiet" (.ref dq)) (S.sub (List.Sublist.append (List.Sublist.cons_cons _ (List.nil_sublist _)) (.refl _))) (q1) (q2) (rfl) (rfl) fun m1 S q1 q2 q3 q4 => ?_
  obtain ⟨ns, lo, vo, h1, h2, h3, h4⟩ := (hAo.get (n := i)).resolve_left fun q => by have := q.1; rw [oK_get, if_pos hir] at this; cases this
  rw [oK_get, if_pos hir] at h1
  cases h1
  have hqv : valueAt (qK (lQ false (V.wo g)) (5 :: ranked)) (i : Int) = some (.bool (lQ false (V.wo g) i)) := by rw [qK_get, if_pos hir]
  have Wl1 := Wl.ext x1
  have hsp : (V.refs six)[((i : Nat) : Int).toNat]? = some (.ref (V.x i)) := by rw [Int.toNat_natCast, Vo.refs, List.getElem?_map, six_get hi6]; rfl
  refine xcons (xAsg (Call_ (ldG S (T.glob _ _ rfl) (cwK TO.fRo.keep (xSub (xSub (ldL S rfl q1 ?_)))))))
  refine cStr S fun t1 s' S => sSGet S (S.o Wl1.w) rfl fun s' S => ldL S rfl q2 (sIdx (v := .ref (V.x i)) (S.o Wl1.specs) hsp (by (with_reducible exact Int.natCast_nonneg _)) (by ((with_reducible refine oz6 ‹_› ?_); exact rfl)) ⟨S.amb.x, callC ?_⟩)
  refine ro0_ok T TR TO W ((ovS_none_ok O G false).ok W) (SX.nodes.ext x1) hi (fun j hj => ovS_eq W hj rfl) S (rD.le (by decide)) hh hAD (FrOk.own S rfl hF) fun xs la ρ2 s' ho x2 S => ?_
  rw [TE.f i hi] at ho
  cases ho
  have nla := S.none_of_nth 1 rfl
  have S := S.give 1 rfl
  have x3 : Ext ρ2 (upd ρ2 la (.list (V.refs (lOrd false (V.wo g) i)))) := ext_upd _ nla
  have ela : upd ρ2 la (.list (V.refs (lOrd false (V.wo g) i))) la = some (.list (V.refs (lOrd false (V.wo g) i))) := upd_self ..
  have S : St C (upd ρ2 la (.list (V.refs (lOrd false (V.wo g) i)))) (σ ++ τ) [(L, .fr "frame" m1)] s' := S
  obtain ⟨ρ3, hρ3⟩ : ∃ ρ3, ρ3 = upd ρ2 la (.list (V.refs (lOrd false (V.wo g) i))) := ⟨_, rfl⟩
  rw [← hρ3] at S x3 ela
  have X3 := (x1.trans x2).trans x3
  refine stL S rfl fun s' S => ?_
  refine pk6 (P1 := fun (m2 : Mp) => St C ρ3 (σ ++ τ) [(L, .fr "frame" m2)] s') (P2 := fun (m2 : Mp) => m2 "world" = some (.ref w)) (P3 := fun (m2 : Mp) => m2 "node" = some (.int (i : Nat) t)) (P4 := fun (m2 : Mp) => m2 "orders" = some (.ref od)) (P5 := fun (m2 : Mp) => m2 "quiet" = some (.ref dq)) (P6 := fun (m2 : Mp) => m2 "told" = some (.ref la)) (m1.put "told" (.ref la)) (S) (q1) (q2) (q3) (q4) (rfl) fun m2 S q1 q2 q3 q4 q5 => ?_
  have hu : ∀ n, 2 ≤ n → Rm (A.deeper (envX "_law_plain" (topF 20).scope L a.lPlain cdv (cellsFrom (L + 1) (topF 20).scope.names []))) n → (A.deeper (envX "_law_plain" (topF 20).scope L a.lPlain cdv (cellsFrom (L + 1) (topF 20).scope.names []))).units + 64 < cLine := fun n hn rr => by
    have := rr.2
    have h3 : (9900 : Nat) ≤ cLine := by decide
    omega
  have hxz : (lOrd false (V.wo g) i).length ≤ Big := Nat.le_trans (hlen i hi) (by decide)
  have hrz : (V.refs (lOrd false (V.wo g) i)).length ≤ Big := by rw [Vo.refs, List.length_map]; exact hxz
  refine xcons (wpAny_If (isTrue_or (isTrue_not (isTrue_plain (Call_ (ldB S (T.nog _ rfl) rfl (cwB (ldL S rfl q5 (ldB S (T.nog _ rfl) rfl (isList (S.o ela) (wpAny_truthy_bool ?_)))))))))))
  rw [if_neg (show ¬ ((!true) = true) from Bool.false_ne_true)]
  refine isTrue_or (xCmp (Call_ (ldG S (T.glob _ _ rfl) (cwK TL.fNumbers.keep (ldL S rfl q1 (ldL S rfl q5 ⟨S.amb.x, callC ?_⟩))))))
  refine lNumbers_ok T TL O (SX.ext X3) hall (Wl.ext X3) (.inl ela) hxi.2 hxz S (rD.le (by decide)) hh fun ln vn s' hvn S => ?_
  refine xSub (ldL S rfl q3 (ldL S rfl q2 (sDGet S (S.o (x3 _ _ (x2 _ _ eo))) h2 fun s' S => neI (S.at 1 rfl) (S.o (x3 _ _ (x2 _ _ h3))) hvn h4 (hu 59 (by decide) rD) (wpAny_truthy_bool ?_))))
  rw [show (!decide (lOrd false (V.wo g) i = lOrd false (V.wo g) i)) = false from by simp, if_neg Bool.false_ne_true]
  refine isTrue_or_nil ?_
  rw [if_neg Bool.false_ne_true]
  have S : St C ρ3 (σ ++ τ) [(L, .fr "frame" m2)] s' := S.sub (List.Sublist.append (List.Sublist.cons_cons _ (List.nil_sublist _)) (.refl _))
  refine wpAny_execs_nil ?_
  have Wl3 := Wl.ext X3
  refine xcons (wpAny_Expr_any (xMeth (ldL S rfl q5 (gAppend (S.o ela) (cwB (xSub (xSub (ldL S rfl q1 ?_))))))))
  refine cStr S fun t1 s' S => sSGet S (S.o Wl3.w) rfl fun s' S => ?_
  refine cInt (i := 0) S fun t2 s' S => sIdx (v := .ref (V.x 0)) (S.o Wl3.specs) rfl (by decide) (by decide) (bAppendO S ela hrz fun s' S => ?_)
  have x4 : Ext ρ2 (upd ρ3 la (.list (V.refs (lOrd false (V.wo g) i) ++ [.ref (V.x 0)]))) := fun p y e => by
    have np : p ≠ la := fun q => by rw [q, nla] at e; cases e
    rw [upd_ne _ _ np]; exact x3 _ _ e
  generalize upd ρ3 la (.list (V.refs (lOrd false (V.wo g) i) ++ [.ref (V.x 0)])) = ρ4 at S x4
  clear hρ3 X3 ela Wl3 x3
  have X4 := (x1.trans x2).trans x4
  have Wl4 := Wl.ext X4
  refine xcons (wpAny_Try_except (xcons (xAsg (CallKw_ (ldG S (T.glob _ _ rfl) (cwKw1 TO.fRo.keep (xSub (xSub (ldL S rfl q1 ?_)))))))))
  refine cStr S fun t1 s' S => sSGet S (S.o Wl4.w) rfl fun s' S => ldL S rfl q2 (sIdx (v := .ref (V.x i)) (S.o Wl4.specs) hsp (by (with_reducible exact Int.natCast_nonneg _)) (by ((with_reducible refine oz6 ‹_› ?_); exact rfl)) (cBool ⟨S.amb.x, wpAny_call ?_⟩))
  refine roS_ok T TR TO W ((ovS_none_ok O G true).ok W) (SX.nodes.ext X4) hi (fun j hj => ovS_eq W hj rfl) S (rD.le (by decide)) hh hAD (FrOk.own S rfl hF) ?_ ?_
  · intro xs lb ρ5 s' ho x5 S
    have ht := TE.t i hi
    rw [ho] at ht
    have hq : lQ false (V.wo g) i = true := by
      cases hq : lQ false (V.wo g) i with
      | true => rfl
      | false => rw [hq, if_neg Bool.false_ne_true] at ht; cases ht
    rw [hq, if_pos rfl] at ht
    cases ht
    refine S.giveE 1 rfl fun ρ6 x6 elb S => ?_
    have X6 := (X4.trans x5).trans x6
    have Y6 := (x4.trans x5).trans x6
    refine stL S rfl fun s' S => ?_
    refine pk6 (P1 := fun (m3 : Mp) => St C ρ6 (σ ++ τ) [(L, .fr "frame" m3)] s') (P2 := fun (m3 : Mp) => m3 "world" = some (.ref w)) (P3 := fun (m3 : Mp) => m3 "node" = some (.int (i : Nat) t)) (P4 := fun (m3 : Mp) => m3 "orders" = some (.ref od)) (P5 := fun (m3 : Mp) => m3 "quiet" = some (.ref dq)) (P6 := fun (m3 : Mp) => m3 "told" = some (.ref lb)) (m2.put "told" (.ref lb)) (S) (q1) (q2) (q3) (q4) (rfl) fun m3 S q1 q2 q3 q4 q5 => ?_
    refine xcons (wpAny_Return_some (BoolOp_and (xSub (ldL S rfl q4 (ldL S rfl q2 (sDGet S (S.o (Y6 _ _ (x2 _ _ eq))) hqv fun s' S => wpAny_truthy_bool ?_))))))
    rw [hq, if_pos rfl]
    refine BoolOp_and (Call_ (ldB S (T.nog _ rfl) rfl (cwB (ldL S rfl q5 (ldB S (T.nog _ rfl) rfl (isList (S.o elb) (wpAny_truthy_bool ?_)))))))
    rw [if_pos rfl]
    refine BoolOp_one (wpAny_Compare1 (Call_ (ldG S (T.glob _ _ rfl) (cwK TL.fNumbers.keep (ldL S rfl q1 (ldL S rfl q5 ⟨S.amb.x, callC ?_⟩))))))
    refine lNumbers_ok T TL O (SX.ext X6) hall (Wl.ext X6) (.inl elb) hxi.2 hxz S (rD.le (by decide)) hh fun ln vn s' hvn S => ?_
    refine xSub (ldL S rfl q3 (ldL S rfl q2 (sDGet S (S.o (Y6 _ _ (x2 _ _ eo))) h2 fun s' S => eqI (S.at 1 rfl) (S.o (Y6 _ _ (x2 _ _ h3))) hvn h4 (hu 59 (by decide) rD) ?_)))
    rw [show decide (lOrd false (V.wo g) i = lOrd false (V.wo g) i) = true from by simp]
    exact hOk ρ6 s' X6 S.forget.back0
  · intro hno e s' Z
    have ht := TE.t i hi
    rw [hno] at ht
    have hq : lQ false (V.wo g) i = false := by
      cases hq : lQ false (V.wo g) i with
      | false => rfl
      | true => rw [hq, if_pos rfl] at ht; cases ht
    refine note_St hAD (FrOk.own Z.1 rfl hF) rfl Z fun s' Z => flight_St (fr := none) Z fun s' Z => ?_
    refine wpAny_handleBy_cons (codeAny_handlers_test (ldG Z.1 (T.glob _ _ rfl) (catchSelf T Z ?_))) (fun q => nomatch q)
    refine codeAny_handlers_suite (flight_St (fr := none) Z fun s' Z => ?_)
    obtain ⟨S, ne⟩ := Z.name
    have x5 : Ext ρ4 (upd ρ4 e excO) := ext_upd _ ne
    have S : St C (upd ρ4 e excO) (σ ++ τ) [(L, .fr "frame" m2)] s' := S
    generalize upd ρ4 e excO = ρ5 at S x5
    have Y5 := x4.trans x5
    refine xcons (wpAny_Return_some (UnaryOp_ (xSub (ldL S rfl q4 (ldL S rfl q2 (sDGet S (S.o (Y5 _ _ (x2 _ _ eq))) hqv fun s' S => not_of (wpAny_truthy_bool ?_)))))))
    rw [hq]
    exact hOk ρ5 s' (X4.trans x5) S.forget.back0
end
end Mine
end
section
open PySem PySem.W PyProof.Rows PySem.Calls
set_option Elab.async false
set_option maxRecDepth 100000
set_option linter.unusedVariables false
set_option linter.unusedSimpArgs false
set_option maxHeartbeats 4000000
namespace Mine
open PySem (Sem Str Value Heap Obj Shared)
section
variable {C : Cx} {a : Adr} {ρ : Wd} {τ σ : Lc} {s : Shared} {A : Around} {E : Value → Shared → Prop} {Q : Value → Shared → Prop} {R : Result → Shared → Prop} {V : Vo} {g : Gs}
structure LkP (w od : Addr) (d : Int) (t : Tok) (k : Nat) (y : Mp) : Prop where
  f1 : y "world" = some (.ref w)
  f2 : y "drawn" = some (.int d t)
  f3 : y "orders" = some (.ref od)
theorem lLooks_ok {ranked : List Nat} {w ls lb0 lr : Addr} {bl : List Addr} {vr : List Value} {l : List Env} {d : Int} {t : Tok} (T : Text C a) (TR : TextR C a) (TO : TextO C a) (TL : TextL C a) (O : V.Ok) (G : g.Ok V) (SX : Spx ρ a V g) (hall : ∀ i, i < 6 → V.live i) (Wl : WorldAt ρ V g.bs ranked w ls lb0 lr bl vr) (K : RkOk V.live g.bs ranked)
    (h5 : ranked.length = 5) (hin : ∀ i, i < 5 → i ∈ ranked) (TE : TellOk V g) (hso : ∀ i, V.live i → g.so i = lOrd true (V.wo g) i) (S : St C ρ τ σ s) (r : Rm A 62) (hh : A.handled = none) (hA : A.frames = some l) (hF : FrOk (σ ++ τ) l)
    (hOk : ∀ ρ' s', Ext ρ ρ' → St C ρ' τ σ s' → R (.ok (.ret (.bool true))) s') :
    codeAny C.M A (.call (.ref a.lLooks) ⟨[.ref w, .int d t], []⟩) R s := by
  have W : (V.wo g).Ok := G.wo O
  have hlen : ∀ j, V.live j → (lOrd true (V.wo g) j).length ≤ 6 := fun j hj => by
    rw [← hso j hj]
    have h := G.so j hj
    exact nodup_lt 6 _ h.1 fun k hk => O.six k (h.2 k hk).1
  refine enter S TL.fLooks r.d (binds := [("world", .ref w), ("drawn", .int d t)]) (fun _ _ _ _ _ _ => BindsTo.of_eq rfl) fun L cdv s' S => ?_
  refine pk3 (P1 := fun (m0 : Mp) => St C ρ (σ ++ τ) [(L, .fr "frame" m0)] s') (P2 := fun (m0 : Mp) => m0 "world" = some (.ref w)) (P3 := fun (m0 : Mp) => m0 "drawn" = some (.int d t)) _ (S) (rfl) (rfl) fun m0 S q1 q2 => ?_
  have rD : Rm (A.deeper (envX "_law_looks" (topF 21).scope L a.lLooks cdv (cellsFrom (L + 1) (topF 21).scope.names []))) 61 := r.deeper (n := 61) _
  have hAD : (A.deeper (envX "_law_looks" (topF 21).scope L a.lLooks cdv (cellsFrom (L + 1) (topF 21).scope.names []))).frames = some (envX "_law_looks" (topF 21).scope L a.lLooks cdv (cellsFrom (L + 1) (topF 21).scope.names []) :: l) := Around.frames_deeper hA
  have hu : (A.deeper (envX "_law_looks" (topF 21).scope L a.lLooks cdv (cellsFrom (L + 1) (topF 21).scope.names []))).units + 64 < cLine := by
    have := rD.2
    have h3 : (9900 : Nat) ≤ cLine := by decide
    omega
  refine xcons (Assign_Tuple (Call_ (ldG S (T.glob _ _ rfl) (cwK TL.fOrders.keep (ldL S rfl q1 (cBool ⟨S.amb.x, callC ?_⟩))))))
  refine lOrders_ok T TL W Wl K (fun j hj => Nat.le_trans (hlen j hj) (by decide)) (hall 5 (by decide)) S (rD.le (by decide)) hh fun lt od dq kvo ρ1 s' x1 eo eq hAo S => ?_
  refine asgTup2 S rfl (S.at 1 rfl) hh fun s' S => ?_
  refine pk4 (P1 := fun (m1 : Mp) => St C ρ1 (σ ++ τ) [(L, .fr "frame" m1)] s') (P2 := fun (m1 : Mp) => m1 "world" = some (.ref w)) (P3 := fun (m1 : Mp) => m1 "drawn" = some (.int d t)) (P4 := fun (m1 : Mp) => m1 "orders" = some (.ref od)) ((m0.put "orders" (.ref od)).put "quiet" (.ref dq)) (S.sub (List.Sublist.append (List.Sublist.cons_cons _ (List.nil_sublist _)) (.refl _))) (q1) (q2) (rfl) fun m1 S q1 q2 q3 => ?_
  have Wl1 := Wl.ext x1
  have SX1 := SX.ext x1
  obtain ⟨top, htop⟩ : ∃ top, ranked[4]? = some top := ⟨ranked[4]'(by omega), List.getElem?_eq_getElem _⟩
  have hmod : ∀ x : Int, ∃ j : Nat, j < 5 ∧ x % ((5 : Nat) : Int) = (j : Int) := fun x => ⟨(x % 5).toNat, by omega, by omega⟩
  obtain ⟨j1, hj1, ej1⟩ := hmod d
  have hvz : vr.length ≤ Big := by rw [Wl.rki.len, h5]; decide
  refine xcons (xFor (eTup (xSub (xSub (ldL S rfl q1 ?_)))))
  refine cStr S fun t1 s' S => sSGet S (S.o Wl1.w) rfl fun s' S => ?_
  refine cInt (i := 4) S fun t2 s' S => sIdxI (i := 4) (S.o Wl1.rk) Wl1.rki htop hvz fun t3 => xBin (ldL S rfl q2 ?_)
  refine cInt (i := 5) S fun t4 s' S => oMod (n := 5) S (by decide) fun t5 s' S => ⟨_, _, _, S, (by show 2 ≤ 100000; decide), fun tt s' S => ?_⟩
  rw [ej1] at S
  refine itTup S (S.at 1 rfl) fun I s' S _ => ?_
  refine forLoop_t (α := Mp) (τ := σ ++ τ) (E' := fun _ _ => False) (Wk.tup (by exact hh) I tt [.int (top : Nat) t3, .int (j1 : Nat) t5]) (fun _ => ρ1) (fun y => [(L, .fr "frame" y), (tt, .tup [.int (top : Nat) t3, .int (j1 : Nat) t5])])
    (LkP w od d t) noE ?_ m1 S ⟨q1, q2, q3⟩ ?_ ?_
  · intro k y _ s P S; exact S.at 1 rfl
  · rintro k Qb Eb hQb hEb hRb mk v s hv ⟨p1, p2, p3⟩ S
    obtain ⟨n, tn, rfl, hn5, hnr⟩ : ∃ (n : Nat) (tn : Tok), v = .int (n : Nat) tn ∧ n < 6 ∧ n ∈ ranked := by
      match k, hv with
      | 0, hv => cases hv; exact ⟨top, t3, rfl, O.six _ (K.live _ (List.mem_of_getElem? htop)), List.mem_of_getElem? htop⟩
      | 1, hv => cases hv; exact ⟨j1, t5, rfl, by ((with_reducible refine oz12 ‹_› ?_); exact rfl), hin j1 hj1⟩
    have hnl := K.live n hnr
    refine Spx.el1 SX1 hnl fun e1 z m e2 _ M => ?_
    obtain ⟨ts, s1, s2⟩ := M.sro
    obtain ⟨ti, i1, i2⟩ := M.iro
    have hkm : n ∈ 5 :: ranked := .tail _ hnr
    obtain ⟨ns, lo, vo, h1, h2, h3, h4⟩ := (hAo.get (n := n)).resolve_left fun q => by have := q.1; rw [oK_get, if_pos hkm] at this; cases this
    rw [oK_get, if_pos hkm] at h1
    cases h1
    have hsw := G.so n hnl
    have hsl : ∀ k, k ∈ g.so n → V.live k := fun k hk => (hsw.2 k hk).1
    have hsz : (g.so n).length ≤ Big := by rw [hso n hnl]; exact Nat.le_trans (hlen n hnl) (by decide)
    have hsp : (V.refs six)[((n : Nat) : Int).toNat]? = some (.ref (V.x n)) := by rw [Int.toNat_natCast, Vo.refs, List.getElem?_map, six_get hn5]; rfl
    refine wpAny_of_eq (a := ()) rfl (wpAny_assign_Name (stL S rfl fun s' S => ?_))
    refine xcons (xAsg (xSub (xSub (ldL S rfl p1 ?_))))
    refine cStr S fun t1 s' S => sSGet S (S.o Wl1.w) rfl fun s' S => ldL S rfl rfl (sIdx (v := .ref (V.x n)) (S.o Wl1.specs) hsp (by (with_reducible exact Int.natCast_nonneg _)) (by ((with_reducible refine oz6 ‹_› ?_); exact rfl)) (stL S rfl fun s' S => ?_))
    refine pk6 (P1 := fun (m2 : Mp) => St C ρ1 ((I, titO tt (k + 1)) :: (σ ++ τ)) [(L, .fr "frame" m2), (tt, .tup [.int (top : Nat) t3, .int (j1 : Nat) t5])] s') (P2 := fun (m2 : Mp) => m2 "world" = some (.ref w)) (P3 := fun (m2 : Mp) => m2 "drawn" = some (.int d t)) (P4 := fun (m2 : Mp) => m2 "orders" = some (.ref od)) (P5 := fun (m2 : Mp) => m2 "node" = some (.int (n : Nat) tn)) (P6 := fun (m2 : Mp) => m2 "spec" = some (.ref (V.x n))) ((Mp.put mk "node" (.int (n : Nat) tn)).put "spec" (.ref (V.x n))) (S) (p1) (p2) (p3) (rfl) (rfl) fun m2 S p1 p2 p3 p4 p5 => ?_
    have back : ∀ {s : Shared} {ex : Lc}, St C ρ1 ((I, titO tt (k + 1)) :: (σ ++ τ)) ([(L, .fr "frame" m2), (tt, .tup [.int (top : Nat) t3, .int (j1 : Nat) t5])] ++ ex) s → St C ρ1 ((I, titO tt (k + 1)) :: (σ ++ τ)) [(L, .fr "frame" m2), (tt, .tup [.int (top : Nat) t3, .int (j1 : Nat) t5])] s := fun S => S.sub (List.Sublist.append (List.sublist_append_left _ _) (.refl _))
    refine xcons (wpAny_If (isTrue_or (xCmp (Call_ (ldG S (T.glob _ _ rfl) (cwK TL.fNumbers.keep (ldL S rfl p1 (xAttr (ldL S rfl p5 (gOwn S e1 e2 (T.icOwn _ rfl) s1 fun s' S => ⟨S.amb.x, callC ?_⟩))))))))))
    refine lNumbers_ok T TL O SX1 hall Wl1 (.inr s2) hsl hsz S (rD.le (by decide)) hh fun ln vn s' hvn S => ?_
    refine xSub (ldL S rfl p3 (ldL S rfl p4 (sDGet S (S.o eo) h2 fun s' S => neI (S.at 2 rfl) (S.o h3) hvn h4 hu (wpAny_truthy_bool ?_))))
    rw [show (!decide (g.so n = lOrd true (V.wo g) n)) = false from by rw [hso n hnl]; simp, if_neg Bool.false_ne_true]
    have S := back S
    refine isTrue_or (xCmp (Call_ (ldG S (T.glob _ _ rfl) (cwK TL.fNumbers.keep (ldL S rfl p1 (xAttr (ldL S rfl p5 (gOwn S e1 e2 (T.icOwn _ rfl) i1 fun s' S => ⟨S.amb.x, callC ?_⟩))))))))
    refine lNumbers_ok T TL O SX1 hall Wl1 (.inr i2) hsl hsz S (rD.le (by decide)) hh fun ln vn s' hvn S => ?_
    refine xSub (ldL S rfl p3 (ldL S rfl p4 (sDGet S (S.o eo) h2 fun s' S => neI (S.at 2 rfl) (S.o h3) hvn h4 hu (wpAny_truthy_bool ?_))))
    rw [show (!decide (g.so n = lOrd true (V.wo g) n)) = false from by rw [hso n hnl]; simp, if_neg Bool.false_ne_true]
    have S := back S
    refine isTrue_or_nil ?_
    rw [if_neg Bool.false_ne_true]
    exact wpAny_execs_nil (wpAny_execs_nil (hQb m2 _ ⟨p1, p2, p3⟩ S))
  · rintro mk s ⟨p1, p2, p3⟩ S
    obtain ⟨j2, hj2, ej2⟩ := hmod (d / ((5 : Nat) : Int))
    have S : St C ρ1 (σ ++ τ) [(L, .fr "frame" mk)] s := S.sub (List.Sublist.append (List.Sublist.cons_cons _ (List.nil_sublist _)) (.refl _))
    refine wpAny_execs_nil (xcons (wpAny_Return_some (Call_ (ldG S (T.glob _ _ rfl) (cwK TL.fPlain.keep (ldL S rfl p1 (xBin (xBin (ldL S rfl p2 ?_)))))))))
    refine cInt (i := 5) S fun t6 s' S => oDiv (n := 5) S (by decide) (by decide) fun t7 s' S => ?_
    refine cInt (i := 5) S fun t8 s' S => oMod (n := 5) S (by decide) fun t9 s' S => ⟨S.amb.x, callC ?_⟩
    rw [ej2]
    have hj2r := hin j2 hj2
    exact lPlain_ok T TR TO TL O G SX1 hall Wl1 K TE (K.live j2 hj2r) (.tail _ hj2r) S (rD.le (by decide)) hh hAD (FrOk.own S rfl hF) fun ρ' s' x' S' => hOk ρ' s' (x1.trans x') S'.forget.back0
end
end Mine
end
section
open PySem PySem.W PyProof.Rows PySem.Calls
set_option Elab.async false
set_option genSizeOf false
set_option genInjectivity false
set_option maxRecDepth 100000
set_option linter.unusedVariables false
set_option linter.unusedSimpArgs false
set_option maxHeartbeats 4000000
namespace Mine
open PySem (Sem Str Value Heap Obj Shared)
noncomputable def WorldAp (ls lb lr : Addr) (bl : List Addr) : Prop := ls ≠ lb ∧ lr ≠ lb ∧ ∀ l, l ∈ bl → l ≠ lb
structure RkPos (V : Vo) (ranked : List Nat) : Prop where
  pos : ∀ p i, ranked[p]? = some i → V.rk i = p + 1
  five : V.rk 5 = 0
theorem RowsI.extD {D : List Addr} {ρ ρ' : Wd} : ∀ {ls : List Addr} {rs : List (List Nat)}, RowsI ρ ls rs → ExtD D ρ ρ' → RowsI ρ' ls rs
  | [], [], _, _ => trivial
  | _ :: ls, _ :: rs, h, x => ⟨let ⟨vs, a, b⟩ := h.1; ⟨vs, x _ _ a (.inr ⟨by intro _ _ q; (cases q), by intro _ q; cases q⟩), b⟩, RowsI.extD (ls := ls) (rs := rs) h.2 x⟩
theorem WorldAt.extD {D : List Addr} {ρ ρ' : Wd} {V : Vo} {bs : Nat → List Nat} {ranked : List Nat} {w ls lb lr : Addr} {bl : List Addr} {vr : List Value} (h : WorldAt ρ V bs ranked w ls lb lr bl vr) (x : ExtD D ρ ρ') : WorldAt ρ' V bs ranked w ls lb lr bl vr :=
  ⟨x _ _ h.w (.inr ⟨by intro _ _ q; (cases q), by intro _ q; cases q⟩), x _ _ h.specs (.inr ⟨by intro _ _ q; (cases q), by intro _ q; cases q⟩), x _ _ h.bases (.inr ⟨by intro _ _ q; (cases q), by intro _ q; cases q⟩), h.rows.extD x, x _ _ h.rk (.inr ⟨by intro _ _ q; (cases q), by intro _ q; cases q⟩), h.rki⟩
theorem RowsI.ne {ρ : Wd} {p : Addr} {y : AObj} : ∀ {ls : List Addr} {rs : List (List Nat)}, RowsI ρ ls rs → (∀ l, l ∈ ls → l ≠ p) → RowsI (upd ρ p y) ls rs
  | [], [], _, _ => trivial
  | l :: ls, _ :: rs, h, n => ⟨let ⟨vs, a, b⟩ := h.1; ⟨vs, by rw [upd_ne _ _ (n l (.head _))]; exact a, b⟩, RowsI.ne (ls := ls) (rs := rs) h.2 fun l hl => n l (.tail _ hl)⟩
theorem RowsI.set {ρ : Wd} {l : Addr} {vs : List Value} {r : List Nat} (e : ρ l = some (.list vs)) (f : IL vs r) : ∀ {ls : List Addr} {rs : List (List Nat)} {i : Nat}, RowsI ρ ls rs → RowsI ρ (ls.set i l) (rs.set i r)
  | [], [], _, _ => trivial
  | _ :: ls, _ :: rs, 0, h => ⟨⟨vs, e, f⟩, h.2⟩
  | _ :: ls, _ :: rs, i + 1, h => ⟨h.1, RowsI.set e f (ls := ls) (rs := rs) (i := i) h.2⟩
theorem six_set {f : Nat → List Nat} {nb : List Nat} {i : Nat} (h : i < 6) : (six.map f).set i nb = six.map fun j => if j = i then nb else f j := by
  match i, h with
  | 0, _ | 1, _ | 2, _ | 3, _ | 4, _ | 5, _ => rfl
theorem adrs_set (bl : List Addr) (i : Nat) (l : Addr) : (adrs bl).set i (.ref l) = adrs (bl.set i l) := by
  unfold adrs; rw [List.map_set]
noncomputable def ExtNL (ρ ρ' : Wd) : Prop := ∀ p y, ρ p = some y → (∀ xs, y ≠ .list xs) → ρ' p = some y
theorem extNL_upd {ρ : Wd} {p : Addr} {xs : List Value} {y : AObj} (e : ρ p = some (.list xs)) : ExtNL ρ (upd ρ p y) := fun q z hz hn => by
  rw [upd_ne _ _ fun w => by rw [w, e] at hz; cases hz; exact hn _ rfl]; exact hz
theorem Spx.extNL {ρ ρ' : Wd} {a : Adr} {V : Vo} {g : Gs} (S : Spx ρ a V g) (x : ExtNL ρ ρ') : Spx ρ' a V g := fun i hi => by
  obtain ⟨h1, ⟨z, m, h2, hz, ⟨dom, key, root, dep, imp, ⟨t1, b1, b2⟩, ⟨t2, s1, s2⟩, ⟨t3, i1, i2⟩⟩⟩, ⟨es, d1, d2, d3⟩, ⟨kv, k1, k2⟩⟩ := S i hi
  refine ⟨x _ _ h1 (by intro _ q; cases q), ⟨z, m, x _ _ h2 (by intro _ q; cases q), hz, ⟨dom, key, root, dep, imp, ⟨t1, b1, x _ _ b2 (by intro _ q; cases q)⟩, ⟨t2, s1, x _ _ s2 (by intro _ q; cases q)⟩, ⟨t3, i1, x _ _ i2 (by intro _ q; cases q)⟩⟩⟩,
    ⟨es, x _ _ d1 (by intro _ q; cases q), d2, fun p hp => let ⟨t, ht⟩ := d3 p hp; ⟨t, x _ _ ht (by intro _ q; cases q)⟩⟩, ⟨kv, x _ _ k1 (by intro _ q; cases q), k2⟩⟩
theorem idx_toI {i : Nat} : ∀ {l : List Nat} {p : Nat}, l.Nodup → l[p]? = some i → (toI l).idxOf (i : Int) = p ∧ (i : Int) ∈ toI l
  | b :: l, 0, nd, h => by
    have : b = i := by simpa using h
    subst this
    exact ⟨List.idxOf_cons_self, .head _⟩
  | b :: l, p + 1, nd, h => by
    rw [List.nodup_cons] at nd
    have hp : l[p]? = some i := by simpa using h
    have hb : (b : Int) ≠ (i : Int) := fun q => nd.1 (by
      have : b = i := by omega
      rw [this]; exact List.mem_of_getElem? hp)
    have ih := idx_toI (l := l) (p := p) nd.2 hp
    refine ⟨?_, .tail _ ih.2⟩
    show ((b : Int) :: toI l).idxOf (i : Int) = p + 1
    rw [List.idxOf_cons, ih.1]
    have : ((b : Int) == (i : Int)) = false := by simpa using hb
    rw [this]; rfl
structure LtS where
  m : Mp
  vs : List Value
  ns : List Nat
  rest : Int
section
variable {C : Cx} {a : Adr} {ρ : Wd} {τ σ : Lc} {s : Shared} {A : Around} {E : Value → Shared → Prop} {Q : Value → Shared → Prop} {R : Result → Shared → Prop} {V : Vo} {g : Gs}
inductive LtN (C : Cx) (ρ : Wd) (τ : Lc) (σ : List Value → Lc) (low : List Nat) (k : Nat) (f : Flow) (s' : Shared) : Prop
  | mk (e : f = .next) (vs' : List Value) (ns' : List Nat) (h1 : IL vs' ns') (h2 : ns'.Nodup) (h3 : ∀ x, x ∈ ns' → x ∈ low) (h4 : ns'.length ≤ k + 1) (S : St C ρ τ (σ vs') s') : LtN C ρ τ σ low k f s'
structure LtP (t : Tok) (i : Nat) (ll lbs : Addr) (low : List Nat) (k : Nat) (y : LtS) : Prop where
  f1 : y.m "node" = some (.int (i : Nat) t)
  f2 : y.m "lower" = some (.ref ll)
  f3 : y.m "bases" = some (.ref lbs)
  f4 : (∃ tr, y.m "rest" = some (.int y.rest tr))
  f5 : IL y.vs y.ns
  f6 : y.ns.Nodup
  f7 : (∀ x, x ∈ y.ns → x ∈ low)
  f8 : y.ns.length ≤ k
  f9 : k ≤ 4
theorem lTurn_ok {ranked : List Nat} {w ls lb0 lr : Addr} {bl : List Addr} {vr : List Value} {l : List Env} {i p : Nat} {t tn : Tok} {num : Int} (T : Text C a) (TR : TextR C a) (TO : TextO C a) (TS : TextS C a) (TL : TextL C a) (O : V.Ok) (G : g.Ok V) (Cn : g.Con V) (hset : Settled V g) (SX : Spx ρ a V g) (hall : ∀ i, i < 6 → V.live i)
    (Wl : WorldAt ρ V g.bs ranked w ls lb0 lr bl vr) (Wq : WorldAp ls lb0 lr bl) (K : RkOk V.live g.bs ranked) (P : RkPos V ranked) (hp : ranked[p]? = some i) (S : St C ρ τ σ s) (r : Rm A 64) (hh : A.handled = none) (hA : A.frames = some l) (hF : FrOk (σ ++ τ) l)
    (hOk : ∀ ρ' s' g' bl', Spx ρ' a V g' → g'.Ok V → g'.Con V → Settled V g' → WorldAt ρ' V g'.bs ranked w ls lb0 lr bl' vr → WorldAp ls lb0 lr bl' → RkOk V.live g'.bs ranked → St C ρ' τ σ s' → R (.ok (.ret .none)) s') :
    codeAny C.M A (.call (.ref a.lTurn) ⟨[.ref w, .int (i : Nat) t, .int num tn], []⟩) R s := by
  have him := List.mem_of_getElem? hp
  have hil := K.live i him
  have hi6 := O.six i hil
  have hix := idx_toI (List.nodup_cons.mp K.nd).2 hp
  have hp5 : p < 5 := Nat.lt_of_lt_of_le (List.getElem?_eq_some_iff.mp hp).1 K.len
  have hvl : vr.length = ranked.length := Wl.rki.len
  have hvz : vr.length ≤ Big := by rw [hvl]; exact Nat.le_trans K.len (by decide)
  refine enter S TL.fTurn r.d (binds := [("world", .ref w), ("node", .int (i : Nat) t), ("number", .int num tn)]) (fun _ _ _ _ _ _ => BindsTo.of_eq rfl) fun L cdv s' S => ?_
  refine pk3 (P1 := fun (m0 : Mp) => St C ρ (σ ++ τ) [(L, .fr "frame" m0), (L + 1, .cell (some (.ref w)))] s') (P2 := fun (m0 : Mp) => m0 "node" = some (.int (i : Nat) t)) (P3 := fun (m0 : Mp) => m0 "number" = some (.int num tn)) _ (S) (rfl) (rfl) fun m0 S q1 q2 => ?_
  have rD : Rm (A.deeper (envX "_law_turn" (topF 22).scope L a.lTurn cdv (cellsFrom (L + 1) (topF 22).scope.names []))) 63 := r.deeper (n := 63) _
  have hAD : (A.deeper (envX "_law_turn" (topF 22).scope L a.lTurn cdv (cellsFrom (L + 1) (topF 22).scope.names []))).frames = some (envX "_law_turn" (topF 22).scope L a.lTurn cdv (cellsFrom (L + 1) (topF 22).scope.names []) :: l) := Around.frames_deeper hA
  refine xcons (xAsg (xBin (xSub (xSub (ldC S 1 rfl ?_)))))
  refine cStr S fun t1 s' S => sSGet S (S.o Wl.w) rfl fun s' S => wpAny_Slice (wpAny_pure ?_)
  rw [evalPart_some]
  refine xMeth (xSub (ldC S 1 rfl ?_))
  refine cStr S fun t2 s' S => sSGet S (S.o Wl.w) rfl fun s' S => gIndex (S.o Wl.rk) (cwB (ldL S rfl q1 (bIndex S (S.o Wl.rk) Wl.rki hix.2 hvz fun t3 s' S => wpAny_pure ?_)))
  rw [hix.1]
  refine sUpto S (S.o Wl.rk) hvz fun r1 s' S => ?_
  refine eList (cInt (i := 5) S fun t4 s' S => ⟨_, _, _, S, big1, fun l5 s' S => oAddL S (S.at 2 rfl) (S.at 3 rfl) (by rw [List.length_take]; show min p vr.length + 1 ≤ 100000; omega) fun ll s' S => stL S rfl fun s' S => ?_⟩)
  have hlow : IL (vr.take p ++ [.int 5 t4]) (ranked.take p ++ [5]) := (Wl.rki.take p).app (IL.one 5 t4)
  obtain ⟨vlow, hvlow⟩ : ∃ x, x = vr.take p ++ [Value.int 5 t4] := ⟨_, rfl⟩
  obtain ⟨low, hlowe⟩ : ∃ x, x = ranked.take p ++ [5] := ⟨_, rfl⟩
  rw [← hvlow, ← hlowe] at hlow
  have hll : low.length = p + 1 := by
    rw [hlowe, List.length_append, List.length_take, List.length_singleton]
    have := (List.getElem?_eq_some_iff.mp hp).1
    omega
  have hlz : vlow.length ≤ Big := by rw [hlow.len, hll]; show p + 1 ≤ 100000; omega
  refine pk4 (P1 := fun (m1 : Mp) => St C ρ (σ ++ τ) [(L, .fr "frame" m1), (L + 1, .cell (some (.ref w))), (ll, .list vlow)] s') (P2 := fun (m1 : Mp) => m1 "node" = some (.int (i : Nat) t)) (P3 := fun (m1 : Mp) => m1 "number" = some (.int num tn)) (P4 := fun (m1 : Mp) => m1 "lower" = some (.ref ll)) (m0.put "lower" (.ref ll)) (by rw [hvlow]; exact S.sub (List.Sublist.append (List.Sublist.cons_cons _ (List.Sublist.cons_cons _ (List.Sublist.cons _ (List.Sublist.cons _ (.refl _))))) (.refl _))) (q1) (q2) (rfl) fun m1 S q1 q2 q3 => ?_
  refine xcons (xAsg (xBin (ldL S rfl q2 ?_)))
  refine cInt (i := 4) S fun t5 s' S => oDiv (n := 4) S (by decide) (by decide) fun t6 s' S => stL S rfl fun s' S => ?_
  refine xcons (xAsg (eList ⟨_, _, _, S, Nat.zero_le _, fun lbs s' S => stL S rfl fun s' S => ?_⟩))
  refine pk6 (P1 := fun (m2 : Mp) => St C ρ (σ ++ τ) [(L, .fr "frame" m2), (L + 1, .cell (some (.ref w))), (ll, .list vlow), (lbs, .list [])] s') (P2 := fun (m2 : Mp) => m2 "node" = some (.int (i : Nat) t)) (P3 := fun (m2 : Mp) => m2 "number" = some (.int num tn)) (P4 := fun (m2 : Mp) => m2 "lower" = some (.ref ll)) (P5 := fun (m2 : Mp) => m2 "bases" = some (.ref lbs)) (P6 := fun (m2 : Mp) => m2 "rest" = some (.int (num / ((4 : Nat) : Int)) t6)) ((m1.put "rest" (.int (num / ((4 : Nat) : Int)) t6)).put "bases" (.ref lbs)) (S) (q1) (q2) (q3) (rfl) (rfl) fun m2 S q1 q2 q3 q4 q5 => ?_
  obtain ⟨n4, hn4, en4⟩ : ∃ j : Nat, j < 4 ∧ num % ((4 : Nat) : Int) = (j : Int) := ⟨(num % 4).toNat, by omega, by omega⟩
  refine xcons (xFor (Call_ (ldB S (T.nog _ rfl) rfl (cwT (xBin (ldL S rfl q2 ?_))))))
  refine cInt (i := 4) S fun t7 s' S => oMod (n := 4) S (by decide) fun t8 s' S => ?_
  rw [en4]
  refine xRange S (by ((with_reducible refine oz13 ‹_› ?_); exact rfl)) fun I s' S => ?_
  refine forP_t (α := LtS) (τ := σ ++ τ) (E' := fun _ _ => False) (Wp.range (by exact hh) I 0 1 n4) (fun _ => ρ) (fun y => [(L, .fr "frame" y.m), (L + 1, .cell (some (.ref w))), (ll, .list vlow), (lbs, .list y.vs)])
    (LtP t i ll lbs low) noE (fun _ _ _ _ _ _ => trivial) ⟨m2, [], [], num / ((4 : Nat) : Int)⟩ S ⟨q1, q3, q4, ⟨_, q5⟩, IL.nil, List.nodup_nil, (fun _ h => (nomatch h)), Nat.zero_le _, Nat.zero_le _⟩ ?_ ?_
  · rintro k Qb Eb hQb hEb hRb ⟨mk, vs, ns, rest⟩ v s hk ⟨tk, rfl⟩ ⟨p1, p2, p3, ⟨tr, p4⟩, p5, p6, p7, p8, p9⟩ S
    dsimp only at p1 p2 p3 p4 p5 p6 p7 p8 p9 S
    refine wpAny_of_eq (a := ()) rfl (wpAny_assign_Name (stL S rfl fun s' S => ?_))
    refine pk5 (P1 := fun (m3 : Mp) => St C ρ ((I, rgI 0 1 n4 (k + 1)) :: (σ ++ τ)) [(L, .fr "frame" m3), (L + 1, .cell (some (.ref w))), (ll, .list vlow), (lbs, .list vs)] s') (P2 := fun (m3 : Mp) => m3 "node" = some (.int (i : Nat) t)) (P3 := fun (m3 : Mp) => m3 "lower" = some (.ref ll)) (P4 := fun (m3 : Mp) => m3 "bases" = some (.ref lbs)) (P5 := fun (m3 : Mp) => m3 "rest" = some (.int rest tr)) (mk.put "k" (.int (0 + (k : Int) * 1) tk)) (S) (p1) (p2) (p3) (p4) fun m3 S p1 p2 p3 p4 => ?_
    have hlz' : vlow.length = p + 1 := by rw [hlow.len, hll]
    obtain ⟨j, hj, ej⟩ : ∃ j : Nat, j < vlow.length ∧ rest % (vlow.length : Int) = (j : Int) := by
      have h1 := Int.emod_nonneg rest (b := (vlow.length : Int)) (by omega)
      have h2 := Int.emod_lt_of_pos rest (b := (vlow.length : Int)) (by omega)
      exact ⟨(rest % (vlow.length : Int)).toNat, by omega, by omega⟩
    obtain ⟨x, hx⟩ : ∃ x, low[j]? = some x := ⟨low[j]'(by rw [← hlow.len]; exact hj), List.getElem?_eq_getElem _⟩
    have hvsz : vs.length ≤ Big := by rw [p5.len]; show ns.length ≤ 100000; omega
    refine xcons (wpAny_mono (Q := LtN C ρ ((I, rgI 0 1 n4 (k + 1)) :: (σ ++ τ)) (fun vs' => [(L, .fr "frame" m3), (L + 1, .cell (some (.ref w))), (ll, .list vlow), (lbs, .list vs')]) low k)
      (wpAny_If (xCmp (xSub (ldL S rfl p2 (xBin (ldL S rfl p4 (Call_ (ldB S (T.nog _ rfl) rfl (cwB (ldL S rfl p2 (xLen S (S.at 2 rfl) hlz fun t9 s' S => oMod S (by omega) fun t10 s' S => ?_))))))))))) (fun f s' h => ?_) fun _ _ e => e)
    · rw [ej]
      refine sIdxI (S.at 2 rfl) hlow hx hlz fun t11 => ldL S rfl p3 (nInI (S.at 3 rfl) p5 (wpAny_truthy_bool ?_))
      by_cases hc : x ∈ ns
      · have : ns.contains x = true := by simpa using hc
        rw [this, if_neg (show ¬ ((!true) = true) from Bool.false_ne_true)]
        exact wpAny_execs_nil ⟨rfl, vs, ns, p5, p6, p7, by (with_reducible exact Nat.le_succ_of_le ‹_›), S⟩
      · have : ns.contains x = false := by simpa using hc
        rw [this, if_pos (show (!false) = true from rfl)]
        refine xcons (wpAny_Expr_any (xMeth (ldL S rfl p3 (gAppend (S.at 3 rfl) (cwB (xSub (ldL S rfl p2 (xBin (ldL S rfl p4 (Call_ (ldB S (T.nog _ rfl) rfl (cwB (ldL S rfl p2 (xLen S (S.at 2 rfl) hlz fun t9 s' S => oMod S (by omega) fun t10 s' S => ?_))))))))))))))
        rw [ej]
        refine sIdxI (S.at 2 rfl) hlow hx hlz fun t11 => bAppend S 3 rfl hvsz fun s' S => wpAny_execs_nil ⟨rfl, vs ++ [Value.int ((x : Nat) : Int) t11], ns ++ [x], p5.app (IL.one x t11), ?_, ?_, ?_, S⟩
        · exact List.nodup_append.mpr ⟨p6, by simp, fun a ha c hc' e => by simp at hc'; subst hc'; subst e; exact hc ha⟩
        · intro y hy
          rcases List.mem_append.mp hy with hy | hy
          · exact p7 y hy
          · cases List.mem_singleton.mp hy; exact List.mem_of_getElem? hx
        · rw [List.length_append, List.length_singleton]; (with_reducible exact Nat.succ_le_succ ‹_›)
    · obtain ⟨rfl, vs', ns', u1, u2, u3, u4, S⟩ := h
      refine xcons (xAsg (xBin (ldL S rfl p4 (Call_ (ldB S (T.nog _ rfl) rfl (cwB (ldL S rfl p2 (xLen S (S.at 2 rfl) hlz fun t9 s' S => oDiv S (by omega) (by omega) fun t10 s' S => stL S rfl fun s' S => ?_))))))))
      exact wpAny_execs_nil (hQb ⟨m3.put "rest" (.int (rest / (vlow.length : Int)) t10), vs', ns', rest / (vlow.length : Int)⟩ _ ⟨p1, p2, p3, ⟨t10, rfl⟩, u1, u2, u3, u4, by omega⟩ S)
  rintro ⟨mk, vs, ns, rest⟩ s ⟨p1, p2, p3, _, p5, p6, p7, p8, p9⟩ S
  dsimp only at p1 p2 p3 p5 p6 p7 p8 p9 S
  refine wpAny_execs_nil ?_
  have S : St C ρ (σ ++ τ) [(L, .fr "frame" mk), (L + 1, .cell (some (.ref w))), (lbs, .list vs)] s := S.sub (List.Sublist.append (List.Sublist.cons_cons _ (List.Sublist.cons_cons _ (List.Sublist.cons _ (.refl _)))) (.refl _))
  have nlb := S.none_of_nth 2 rfl
  have S := S.give 2 rfl
  have x1 : Ext ρ (upd ρ lbs (.list vs)) := ext_upd _ nlb
  have elb : upd ρ lbs (.list vs) lbs = some (.list vs) := upd_self ..
  have nlb2 : lbs ≠ lb0 := fun q => by have := Wl.bases; rw [← q, nlb] at this; cases this
  have S : St C (upd ρ lbs (.list vs)) (σ ++ τ) [(L, .fr "frame" mk), (L + 1, .cell (some (.ref w)))] s := S
  generalize upd ρ lbs (.list vs) = ρ1 at S x1 elb
  have Wl1 := Wl.ext x1
  have SX1 := SX.ext x1
  have hlowin : ∀ x, x ∈ low → V.live x ∧ V.rk x < V.rk i ∧ x ∈ 5 :: ranked.take p := fun x hx => by
    rw [hlowe] at hx
    rw [P.pos p i hp]
    rcases List.mem_append.mp hx with hx | hx
    · obtain ⟨q, hq⟩ := List.mem_iff_getElem?.mp hx
      have hlt := (List.getElem?_eq_some_iff.mp hq).1
      rw [List.length_take] at hlt
      rw [List.getElem?_take_of_lt (by omega)] at hq
      exact ⟨K.live x (List.mem_of_getElem? hq), by rw [P.pos q x hq]; omega, .tail _ hx⟩
    · cases List.mem_singleton.mp hx
      exact ⟨hall 5 (by decide), by rw [P.five]; omega, .head _⟩
  have hns4 : ns.length ≤ 4 := by (with_reducible exact Nat.le_trans ‹_› ‹_›)
  refine Spx.el1 SX1 hil fun e1 z m e2 _ M => ?_
  have hsp : ∀ {n : Nat}, n < 6 → (V.refs six)[((n : Nat) : Int).toNat]? = some (.ref (V.x n)) := fun {n} hn => by rw [Int.toNat_natCast, Vo.refs, List.getElem?_map, six_get hn]; rfl
  refine xcons (wpAny_Expr_any (xMeth (xSub (xSub (ldC S 1 rfl ?_)))))
  refine cStr S fun t12 s' S => sSGet S (S.o Wl1.w) rfl fun s' S => ldL S rfl p1 (sIdx (v := .ref (V.x i)) (S.o Wl1.specs) (hsp hi6) (by (with_reducible exact Int.natCast_nonneg _)) (by ((with_reducible refine oz6 ‹_› ?_); exact rfl)) (gMeth S e1 e2 (T.icMeth "setBases" _ rfl) (M.dom _ rfl) (cwK TS.fSetB.keep (Call_ (ldB S (T.nog _ rfl) rfl (cwT ?_))))))
  refine listComp_st (τ := σ ++ τ) (α := Unit) (E' := fun _ _ => False) (fun _ => ρ1) (fun _ => [(L, .fr "frame" mk), (L + 1, .cell (some (.ref w)))])
    (fun k _ ys => ys = V.refs (ns.take k)) rfl (by rfl) rfl (fun _ _ _ f => f.elim) ?_
  have hvsz : vs.length ≤ Big := by rw [p5.len]; show ns.length ≤ 100000; ((with_reducible refine oz2 ‹_› ?_); exact rfl)
  refine ldL S rfl p3 (itList S (S.o elb) fun I2 s' S _ => ⟨I2, _, vs, _, (), rfl, Wk.list (by exact hh) I2 lbs vs, hvsz, S, rfl, ?_, ?_, ?_⟩)
  · rintro k _ ys τ' σ' s _ S; exact S.o elb
  · rintro k _ v ys Lc D mc s hv hys hmv S
    obtain ⟨x, tx, rfl, hx⟩ := p5.get hv
    have hx6 := O.six x (hlowin x (p7 x (List.mem_of_getElem? hx))).1
    refine tests_nil ?_
    rw [if_pos rfl]
    refine xSub (xSub (ldC S 2 rfl ?_))
    refine cStr S fun t13 s' S => sSGet S (S.o Wl1.w) rfl fun s' S => ldL S rfl hmv (sIdx (v := .ref (V.x x)) (S.o Wl1.specs) (hsp hx6) (by (with_reducible exact Int.natCast_nonneg _)) (by ((with_reducible refine oz6 ‹_› ?_); exact rfl)) ⟨(), ?_, S⟩)
    rw [hys, List.take_add_one, hx]; simp [Vo.refs]
  rintro _ ys D s hys S
  have hys : ys = V.refs ns := by rw [hys, p5.len, List.take_length]
  subst hys
  refine xTup S (S.at 2 rfl) (by rw [Vo.refs, List.length_map]; show ns.length ≤ 100000; ((with_reducible refine oz2 ‹_› ?_); exact rfl)) fun tt s' S => ?_
  have ntt := S.none_of_nth 3 rfl
  have S := S.give 3 rfl
  have x2 : Ext ρ1 (upd ρ1 tt (.tup (V.refs ns))) := ext_upd _ ntt
  have ett : upd ρ1 tt (.tup (V.refs ns)) tt = some (.tup (V.refs ns)) := upd_self ..
  have S : St C (upd ρ1 tt (.tup (V.refs ns))) (σ ++ τ) [(L, .fr "frame" mk), (L + 1, .cell (some (.ref w)))] s' := S.sub (List.Sublist.append (List.Sublist.cons_cons _ (List.Sublist.cons_cons _ (List.nil_sublist _))) (.refl _))
  generalize upd ρ1 tt (.tup (V.refs ns)) = ρ2 at S x2 ett
  refine ⟨S.amb.x, callC ?_⟩
  refine setBases_ok T TR TO TS O hil G Cn (fun k hk _ => hset k hk) (fun j hj => ⟨(hlowin j (p7 j hj)).1, (hlowin j (p7 j hj)).2.1⟩) p6 (by (with_reducible exact Nat.le_succ_of_le ‹_›)) (SX1.ext x2) ett S (rD.le (by decide)) hh hAD (FrOk.own S rfl hF) fun ρ3 s' g' x3 SX3 G3 C3 hb3 hset3 S => ?_
  have Wl3 := (Wl1.ext x2).extD x3
  have elb3 : ρ3 lbs = some (.list vs) := x3 _ _ (x2 _ _ elb) (.inr ⟨by intro _ _ q; (cases q), by intro _ q; cases q⟩)
  have hbl6 := Wl.bl6
  refine xcons (wpAny_Assign_Subscript (ldL S rfl p3 (xSub (ldC S 1 rfl ?_))))
  refine cStr S fun t14 s' S => sSGet S (S.o Wl3.w) rfl fun s' S => ldL S rfl p1 (hLSet (S.o Wl3.bases) (by rw [List.length_map, hbl6]; exact hi6) (by rw [List.length_map, hbl6]; decide) fun s' cg tt => ?_)
  have S := S.setO Wl3.bases cg tt
  have e0 : (adrs bl).set i (.ref lbs) = adrs (bl.set i lbs) := adrs_set bl i lbs
  rw [e0] at S
  have xnl : ExtNL ρ3 (upd ρ3 lb0 (.list (adrs (bl.set i lbs)))) := extNL_upd Wl3.bases
  refine wpAny_execs_nil (hOk _ s' g' (bl.set i lbs) (SX3.extNL xnl) G3 C3 hset3 ?_ ?_ ?_ S.forget.back0)
  · have wne : w ≠ lb0 := fun q => by have := Wl3.w; rw [q, Wl3.bases] at this; cases this
    refine ⟨by rw [upd_ne _ _ wne]; exact Wl3.w, by rw [upd_ne _ _ Wq.1]; exact Wl3.specs, upd_self .., ?_, by rw [upd_ne _ _ Wq.2.1]; exact Wl3.rk, Wl3.rki⟩
    rw [hb3, ← six_set hi6]
    refine RowsI.set (by rw [upd_ne _ _ nlb2]; exact elb3) p5 (Wl3.rows.ne Wq.2.2)
  · refine ⟨Wq.1, Wq.2.1, fun l hl => ?_⟩
    rcases List.mem_or_eq_of_mem_set hl with hl | rfl
    · exact Wq.2.2 l hl
    · exact nlb2
  · refine ⟨K.nd, fun k j hj b hb => ?_, K.live, K.len⟩
    rw [hb3] at hb
    have hb : b ∈ (if j = i then ns else g.bs j) := hb
    by_cases q : j = i
    · rw [if_pos q] at hb
      have hk : k = p := by
        rw [q] at hj
        have nd := (List.nodup_cons.mp K.nd).2
        exact (List.getElem?_inj (List.getElem?_eq_some_iff.mp hj).1 nd).mp (hj.trans hp.symm)
      rw [hk]
      exact (hlowin b (p7 b hb)).2.2
    · rw [if_neg q] at hb
      exact K.low k j hj b hb
end
end Mine
end
section
open PySem PySem.W PyProof.Rows PySem.Calls
set_option Elab.async false
set_option genSizeOf false
set_option genInjectivity false
set_option maxRecDepth 100000
set_option linter.unusedVariables false
set_option linter.unusedSimpArgs false
set_option maxHeartbeats 1000000
namespace Mine
open PySem (Sem Str Value Heap Obj Shared)
noncomputable def keyF (i : Nat) : Int := ([9, 2, 11, 0, 7, 4] : List Int).getD i 0
noncomputable def rootF (i : Nat) : Option Nat := if i < 5 then some 5 else none
noncomputable def rankedOf (m : Nat) : List Nat := (List.range 5).map fun k => k * m % 5
noncomputable def rkF (m i : Nat) : Nat := if i = 5 then 0 else (rankedOf m).idxOf i + 1
noncomputable def vo0 (m : Nat) : Vo := ⟨fun _ => False, fun _ => 0, keyF, fun _ => 0, fun _ => 0, fun _ => 0, rootF, rkF m⟩
noncomputable def gs0 : Gs := ⟨fun _ => [], fun _ => [], fun _ => []⟩
theorem key_get : ∀ k, k < 5 → ([9, 2, 11, 0, 7] : List Int)[k]? = some (keyF k) := by decide
theorem keyF_inj : ∀ i, i < 6 → ∀ j, j < 6 → keyF i = keyF j → i = j := by decide
theorem rkF_lt : ∀ m, m < 5 → ∀ i, i < 6 → 0 < m → rkF m i < 6 := by decide
theorem ranked_nd : ∀ m, m < 5 → 0 < m → (5 :: rankedOf m).Nodup := by decide
theorem ranked_len (m : Nat) : (rankedOf m).length = 5 := by unfold rankedOf; rw [List.length_map, List.length_range]
theorem ranked_in : ∀ m, m < 5 → 0 < m → ∀ i, i < 5 → i ∈ rankedOf m := by decide
theorem ranked_lt (m : Nat) : ∀ i, i ∈ rankedOf m → i < 5 := fun i h => by
  unfold rankedOf at h
  obtain ⟨k, _, rfl⟩ := List.mem_map.mp h
  exact Nat.mod_lt _ (by decide)
theorem ranked_pos : ∀ m, m < 5 → 0 < m → ∀ p, p < 5 → ∀ i, i < 5 → (rankedOf m)[p]? = some i → rkF m i = p + 1 := by decide
structure MadeK (m : Nat) (V : Vo) (g : Gs) (k : Nat) : Prop where
  live : ∀ j, V.live j ↔ j = 5 ∨ j < k
  key : V.key = keyF
  root : V.root = rootF
  rk : V.rk = rkF m
  ok : V.Ok
  gok : g.Ok V
  con : g.Con V
  set : Settled V g
  bs : g.bs = fun _ => []
theorem vo0_ok (m : Nat) : (vo0 m).Ok := ⟨fun _ _ h => h.elim, fun _ _ h => h.elim, fun _ h => h.elim, fun _ h => h.elim, fun _ _ h => h.elim, fun _ _ h => h.elim, fun _ _ h => h.elim, fun _ _ h => h.elim⟩
theorem gs0_ok (m : Nat) : gs0.Ok (vo0 m) := ⟨fun _ h => h.elim, fun _ h => h.elim, fun _ h => h.elim, fun _ h => h.elim, fun _ h => h.elim, fun _ h => h.elim⟩
theorem gs0_con (m : Nat) : gs0.Con (vo0 m) := fun _ _ h => h.elim
theorem gs0_set (m : Nat) : Settled (vo0 m) gs0 := fun _ h => h.elim
theorem new5 {m : Nat} (h1 : m < 5) (h0 : 0 < m) : NewN (vo0 m) 5 := ⟨fun h => h, by decide, rkF_lt m h1 5 (by decide) h0, fun _ h => h.elim, fun r h => by cases h⟩
theorem MadeK.new {m : Nat} {V : Vo} {g : Gs} {k : Nat} (M : MadeK m V g k) (h1 : m < 5) (h0 : 0 < m) (hk : k < 5) : NewN V k := by
  refine ⟨fun h => ?_, by ((with_reducible refine oz12 ‹_› ?_); exact rfl), ?_, fun j hj q => ?_, fun r h => ?_⟩
  · rcases (M.live k).mp h with h | h <;> omega
  · rw [M.rk]; exact rkF_lt m h1 k (by ((with_reducible refine oz12 ‹_› ?_); exact rfl)) h0
  · rw [M.key] at q
    have hj6 : j < 6 := by rcases (M.live j).mp hj with h | h <;> omega
    have := keyF_inj j hj6 k (by ((with_reducible refine oz12 ‹_› ?_); exact rfl)) q
    rcases (M.live j).mp hj with h | h <;> omega
  · rw [M.root] at h
    unfold rootF at h
    rw [if_pos hk] at h
    cases h
    refine ⟨(M.live 5).mpr (.inl rfl), ?_⟩
    rw [M.rk]
    show rkF m 5 ≤ _
    unfold rkF; rw [if_pos rfl]; exact Nat.zero_le _
theorem MadeK.add {m : Nat} {V : Vo} {g g' : Gs} {k : Nat} {x dx dep imp : Addr} (M : MadeK m V g k) (hk : k < 5) (O : (V.add k x dx dep imp).Ok) (G : g'.Ok (V.add k x dx dep imp)) (Cn : g'.Con (V.add k x dx dep imp)) (hb : g'.bs = fun j => if j = k then [] else g.bs j) (hs : Settled (V.add k x dx dep imp) g') :
    MadeK m (V.add k x dx dep imp) g' (k + 1) := by
  refine ⟨fun j => ?_, M.key, M.root, M.rk, O, G, Cn, hs, ?_⟩
  · show (V.live j ∨ j = k) ↔ _
    rw [M.live]
    omega
  · rw [hb, M.bs]; funext j; split <;> rfl
theorem MadeK.first {m : Nat} {g' : Gs} {x dx dep imp : Addr} (O : ((vo0 m).add 5 x dx dep imp).Ok) (G : g'.Ok ((vo0 m).add 5 x dx dep imp)) (Cn : g'.Con ((vo0 m).add 5 x dx dep imp)) (hb : g'.bs = fun j => if j = 5 then [] else gs0.bs j) (hs : Settled ((vo0 m).add 5 x dx dep imp) g') :
    MadeK m ((vo0 m).add 5 x dx dep imp) g' 0 := by
  refine ⟨fun j => ?_, rfl, rfl, rfl, O, G, Cn, hs, ?_⟩
  · exact ⟨fun h => .inl (h.resolve_left id), fun h => .inr (h.resolve_right (by omega))⟩
  · rw [hb]; funext j; split <;> rfl
theorem MadeK.rk_ok {m : Nat} {V : Vo} {g : Gs} (M : MadeK m V g 5) (h1 : m < 5) (h0 : 0 < m) : RkOk V.live g.bs (rankedOf m) ∧ RkPos V (rankedOf m) ∧ ∀ i, i < 6 → V.live i := by
  refine ⟨⟨ranked_nd m h1 h0, fun k i _ b hb => ?_, fun i hi => (M.live i).mpr (.inr (ranked_lt m i hi)), Nat.le_of_eq (ranked_len m)⟩, ⟨fun p i hp => ?_, ?_⟩, fun i hi => (M.live i).mpr (by omega)⟩
  · rw [M.bs] at hb; cases hb
  · rw [M.rk]
    have := (List.getElem?_eq_some_iff.mp hp).1
    rw [ranked_len] at this
    exact ranked_pos m h1 h0 p this i (ranked_lt m i (List.mem_of_getElem? hp)) hp
  · rw [M.rk]; unfold rkF; rw [if_pos rfl]
structure TextD (C : Cx) (a : Adr) (td : Addr) : Prop where
  icD : ∃ o n, C.K.lookup a.icDef = some o ∧ o.data = .seq #[.ref td, .none] n
structure LaS where
  V : Vo
  g : Gs
  ρ : Wd
section
variable {C : Cx} {a : Adr} {ρ : Wd} {τ σ : Lc} {s : Shared} {A : Around} {E : Value → Shared → Prop} {Q : Value → Shared → Prop} {R : Result → Shared → Prop}
noncomputable abbrev laE (L : Addr) (a : Adr) (cdv : Value) : Env := envX "law" (topF 23).scope L a.law cdv (cellsFrom (L + 1) (topF 23).scope.names [])
noncomputable def intsOf : List Expr → List Int
  | .Constant (.int i) _ _ :: r => i :: intsOf r
  | _ => []
noncomputable def allInt : List Expr → Bool
  | [] => true
  | .Constant (.int _) _ _ :: r => allInt r
  | _ => false
theorem ArgsTo.cons {env : Env} {pos : Pos} {e : Expr} {r : List Expr} {Q : List Value → Shared → Prop} (h : wpAny C.M A (eval e env) (fun v s₁ => ArgsTo C A env pos r (fun vs s₂ => Q (v :: vs) s₂) E s₁) E s) : ArgsTo C A env pos (e :: r) Q E s := h
theorem argsInts {env : Env} {pos : Pos} : ∀ {es : List Expr} {Q : List Value → Shared → Prop} {s : Shared}, allInt es = true → St C ρ τ σ s → (∀ vs s', IntsAre vs (intsOf es) → St C ρ τ σ s' → Q vs s') → ArgsTo C A env pos es Q E s
  | [], Q, s, _, S, h => h [] s IntsAre.nil S
  | e :: r, Q, s, ha, S, h => by
    cases e with
    | Constant c k p =>
      cases c with
      | int i => exact cInt S fun t s' S => argsInts (es := r) ha S fun vs s' hv S => h _ s' (IntsAre.cons i t hv) S
      | _ => cases ha
    | _ => cases ha
theorem la_root (T : Text C a) (TR : TextR C a) (TO : TextO C a) (TS : TextS C a) (TI : TextI C a) {td : Addr} (TD : TextD C a td) {m : Nat} (h1 : m < 5) (h0 : 0 < m) {L : Addr} {cdv : Value} {m0 : Mp} {hv : Option Value} {l : List Env} (S : St C ρ τ [(L, .fr "frame" m0), (L + 1, .cell hv), (L + 2, .cell none)] s) (etd : ρ td = some (.tup []))
    (r : Rm A 65) (hh : A.handled = none) (hA : A.frames = some l) (hF : FrOk ([(L, .fr "frame" m0), (L + 1, .cell hv), (L + 2, .cell none)] ++ τ) l) {Q : Flow → Shared → Prop}
    (hOk : ∀ V g ρ' s', MadeK m V g 0 → Spx ρ' a V g → St C ρ' τ [(L, .fr "frame" m0), (L + 1, .cell hv), (L + 2, .cell (some (.ref (V.x 5))))] s' → Q .next s') :
    wpAny C.M A (exec (nthS (topF 23).body 1) (laE L a cdv)) Q E s := by
  obtain ⟨od, nd, hod, hdd⟩ := TD.icD
  refine xAsg (Call_ (ldG S (T.glob _ _ rfl) (cwK T.icKeep ?_)))
  refine cInt (i := 4) S fun t s' S => ⟨S.amb.x, callC ?_⟩
  refine mkIC_ok (V := vo0 m) (g := gs0) (i := 5) (tb := td) (tk := t) (rv := .none) T TR TO TS TI (vo0_ok m) (gs0_ok m) (gs0_con m) (gs0_set m) (new5 h1 h0) (fun i hi => hi.elim) etd rfl S r hh hA hF ?_ ?_
  · intro x s kV doc pm an ct am
    exact BindsTo.of_defaults rfl (am.x _ _ hod) hdd rfl rfl
  · intro x dx dep imp ρ' s' g' O' x' SX' G' C' hb' hs' S
    refine stC S 2 rfl fun s' S => ?_
    have M := MadeK.first O' G' C' hb' hs'
    have ex : ((vo0 m).add 5 x dx dep imp).x 5 = x := by
      show (if (5 : Nat) = 5 then x else (vo0 m).x 5) = x
      rw [if_pos rfl]
    exact hOk _ g' ρ' s' M SX' (by rw [ex]; exact S)
theorem la_specs (T : Text C a) (TR : TextR C a) (TO : TextO C a) (TS : TextS C a) (TI : TextI C a) {td : Addr} (TD : TextD C a td) {m : Nat} (h1 : m < 5) (h0 : 0 < m) {L : Addr} {cdv : Value} {m0 : Mp} {hv : Option Value} {V0 : Vo} {g0 : Gs} {l : List Env} (M0 : MadeK m V0 g0 0) (SX0 : Spx ρ a V0 g0) (S : St C ρ τ [(L, .fr "frame" m0), (L + 1, .cell hv), (L + 2, .cell (some (.ref (V0.x 5))))] s)
    (r : Rm A 66) (hh : A.handled = none) (hA : A.frames = some (laE L a cdv :: l)) (hF : FrOk τ l) {Q : Flow → Shared → Prop}
    (hOk : ∀ V g ρ' ls s', MadeK m V g 5 → V.x 5 = V0.x 5 → Spx ρ' a V g → ρ' ls = some (.list (V.refs six)) → St C ρ' τ [(L, .fr "frame" (m0.put "specs" (.ref ls))), (L + 1, .cell hv), (L + 2, .cell (some (.ref (V.x 5))))] s' → Q .next s') :
    wpAny C.M A (exec (nthS (topF 23).body 2) (laE L a cdv)) Q E s := by
  obtain ⟨od, nd, hod, hdd⟩ := TD.icD
  refine xAsg (xBin ?_)
  refine compP_st (τ := τ) (α := LaS) (fun y => y.ρ) (fun _ => [(L, .fr "frame" m0), (L + 1, .cell hv), (L + 2, .cell (some (.ref (V0.x 5))))])
    (fun k y ys => MadeK m y.V y.g k ∧ y.V.x 5 = V0.x 5 ∧ Spx y.ρ a y.V y.g ∧ ys = y.V.refs (List.range k)) rfl (by rfl) rfl ?_
  refine Call_ (ldB S (T.nog _ rfl) rfl (cwT ?_))
  refine cInt (i := 5) S fun t s' S => xRange (n := 5) S (by decide) fun I s' S => ⟨I, _, 5, _, _, ⟨V0, g0, ρ⟩, rfl, Wp.range hh I 0 1 5, (by show 5 ≤ 100000; decide), S, ⟨M0, rfl, SX0, rfl⟩, (fun _ _ _ _ _ _ _ _ => trivial), ?_, ?_⟩
  · rintro k ⟨V, g, ρk⟩ v ys Lc D mc s hk ⟨tk, rfl⟩ ⟨M, hx5, SX, hys⟩ hmv S
    dsimp only at M hx5 SX hys S
    have ek : ((0 : Int) + (k : Int) * 1) = ((k : Nat) : Int) := by omega
    rw [ek] at hmv
    refine tests_nil ?_
    rw [if_pos rfl]
    refine Call_ (ldG S (T.glob _ _ rfl) (cwK T.icKeep ?_))
    refine ArgsTo.cons ?_
    with_reducible refine xSub ?_
    with_reducible refine eList ?_ ?_
    rotate_left
    · rfl
    refine argsInts rfl S fun v9 s' h9 S => ⟨_, _, _, S, (by rw [h9.length]; show 5 ≤ 100000; decide), fun l0 s' S => ?_⟩
    refine ldL S rfl hmv ?_
    have hkk : ([9, 2, 11, 0, 7] : List Int)[k]? = some (keyF k) := key_get k hk
    obtain ⟨t5, h5⟩ := IntsAre.get h9 k (keyF k) hkk
    refine sIdx (v := .int (keyF k) t5) (S.at 4 rfl) (by rw [Int.toNat_natCast]; exact h5) (by (with_reducible exact Int.natCast_nonneg _)) (by ((with_reducible refine oz6 ‹_› ?_); exact rfl)) ?_
    refine eTup ⟨_, _, _, S, Nat.zero_le _, fun tb s' S => ldC S 3 rfl ?_⟩
    have nb := S.none_of_nth 5 rfl
    have S := S.give 5 rfl
    have x1 : Ext ρk (upd ρk tb (.tup [])) := ext_upd _ nb
    have eb : upd ρk tb (.tup []) tb = some (.tup []) := upd_self ..
    have S : St C (upd ρk tb (.tup [])) ((D, .list ys) :: (I, rgI 0 1 5 (k + 1)) :: τ) ((Lc, .fr "dict" mc) :: [(L, .fr "frame" m0), (L + 1, .cell hv), (L + 2, .cell (some (.ref (V0.x 5))))]) s' := S.sub (List.Sublist.append (List.Sublist.cons_cons _ (List.Sublist.cons_cons _ (List.Sublist.cons_cons _ (List.Sublist.cons_cons _ (List.nil_sublist _))))) (.refl _))
    generalize upd ρk tb (.tup []) = ρ2 at S x1 eb
    have hroot : V.rootV k = .ref (V0.x 5) := by
      unfold Vo.rootV
      rw [M.root]
      have : rootF k = some 5 := if_pos hk
      rw [this]; dsimp only; rw [hx5]
    have hkey : V.key k = keyF k := by rw [M.key]
    refine ⟨S.amb.x, callC ?_⟩
    refine mkIC_ok (V := V) (g := g) (i := k) (tb := tb) (tk := t5) (rv := .ref (V0.x 5)) T TR TO TS TI M.ok M.gok M.con M.set (M.new h1 h0 hk) (SX.ext x1) eb hroot.symm S (r.le (by decide)) hh hA (FrOk.cons rfl rfl (.tail _ (.head _)) (hF.mono fun p hp => List.mem_append_right _ (.tail _ (.tail _ hp)))) ?_ ?_
    · intro x s kV doc pm an ct am
      rw [hkey]
      exact BindsTo.of_defaults rfl (am.x _ _ hod) hdd rfl rfl
    · intro x dx dep imp ρ' s' g' O' x' SX' G' C' hb' hs' S
      have M' := M.add hk O' G' C' hb' hs'
      have N := M.new h1 h0 hk
      refine ⟨⟨V.add k x dx dep imp, g', ρ'⟩, ⟨M', ?_, SX', ?_⟩, S⟩
      · show (if 5 = k then x else V.x 5) = _
        rw [if_neg (by omega)]; exact hx5
      · rw [hys, List.range_succ]
        have e1 : (V.add k x dx dep imp).refs (List.range k) = V.refs (List.range k) := add_refs N fun j hj => (M.live j).mpr (.inr (List.mem_range.mp hj))
        have e2 : (V.add k x dx dep imp).x k = x := if_pos rfl
        show V.refs (List.range k) ++ [Value.ref x] = (V.add k x dx dep imp).refs (List.range k ++ [k])
        rw [← e1]
        simp [Vo.refs, e2]
  · rintro ⟨V, g, ρk⟩ ys D s ⟨M, hx5, SX, hys⟩ S
    dsimp only at M hx5 SX hys S
    subst hys
    refine eList (ldC S 2 rfl ⟨_, _, _, S, big1, fun l1 s' S => oAddL S (S.at 3 rfl) (S.at 4 rfl) (by rw [Vo.refs, List.length_map]; show 5 + 1 ≤ 100000; decide) fun l2 s' S => ?_⟩)
    have e6 : V.refs (List.range 5) ++ [Value.ref (V0.x 5)] = V.refs six := by
      rw [← hx5]; rfl
    rw [e6] at S
    refine S.giveE 5 rfl fun ρ2 x1 el S => ?_
    refine stL S rfl fun s' S => hOk V g ρ2 l2 s' M hx5 (SX.ext x1) el ?_
    rw [hx5]
    exact S.sub (List.Sublist.append (List.Sublist.cons_cons _ (List.Sublist.cons_cons _ (List.Sublist.cons_cons _ (List.nil_sublist _)))) (.refl _))
end
end Mine
end
section
open PySem PySem.W PyProof.Rows PySem.Calls
set_option Elab.async false
set_option maxRecDepth 100000
set_option linter.unusedVariables false
set_option linter.unusedSimpArgs false
set_option maxHeartbeats 1000000
namespace Mine
open PySem (Sem Str Value Heap Obj Shared)
theorem mul_ok : ∀ k : Nat, k < 5 → Builtin.Int.intBits (k : Int) ≤ 64 := by decide +kernel
theorem str3_nd : (["specs", "bases", "ranked"] : List Str).Nodup := by decide
section
variable {C : Cx} {a : Adr} {ρ : Wd} {τ σ : Lc} {s : Shared} {A : Around} {E : Value → Shared → Prop} {R : Result → Shared → Prop}
theorem la_world (T : Text C a) {V : Vo} {hd : Int} {th : Tok} {m : Nat} (hm : 1 + hd % ((4 : Nat) : Int) = (m : Int)) {L ls : Addr} {cdv rv : Value} {m0 : Mp} (S : St C ρ τ [(L, .fr "frame" m0), (L + 1, .cell (some (.int hd th))), (L + 2, .cell (some rv))] s) (q1 : m0 "specs" = some (.ref ls)) (hls : ρ ls = some (.list (V.refs six)))
    (hh : A.handled = none) {Q : Flow → Shared → Prop}
    (hOk : ∀ ρ' w lb lr bl vr s', Ext ρ ρ' → WorldAt ρ' V (fun _ => []) (rankedOf m) w ls lb lr bl vr → WorldAp ls lb lr bl → St C ρ' τ [(L, .fr "frame" (m0.put "world" (.ref w))), (L + 1, .cell (some (.int hd th))), (L + 2, .cell (some rv))] s' → Q .next s') :
    wpAny C.M A (exec (nthS (topF 23).body 3) (laE L a cdv)) Q E s := by
  refine xAsg (Q := _) ?_ ?_
  rotate_left
  · rfl
  with_reducible refine eDictS S ?_ ?_ ?_ ?_ ?_
  rotate_left
  · rfl
  · rfl
  · exact fun q => nomatch q
  · decide
  intro w s' S
  refine pairTrees_cons_walk ?_
  refine cStr S fun t1 s' S => ?_
  refine ldL S rfl q1 ?_
  refine pairTrees_cons_walk ?_
  refine cStr S fun t2 s' S => ?_
  refine listComp_st (τ := τ) (α := Wd × List Addr) (E' := fun _ _ => False) (fun y => y.1) (fun _ => [(L, .fr "frame" m0), (L + 1, .cell (some (.int hd th))), (L + 2, .cell (some rv)), (w, .sdict [])])
    (fun k y ys => Ext ρ y.1 ∧ ys = adrs y.2 ∧ RowsI y.1 y.2 ((six.take k).map fun _ => [])) rfl (by rfl) rfl (fun _ _ _ f => f.elim) ?_
  refine ldL S rfl q1 (itList S (S.o hls) fun I s' S _ => ⟨I, _, V.refs six, _, (ρ, []), rfl, Wk.list hh I ls (V.refs six), (show 6 ≤ 100000 by decide), S, ⟨.refl _, rfl, trivial⟩, ?_, ?_, ?_⟩)
  · rintro k ⟨ρk, lk⟩ ys τ' σ' s ⟨x1, _⟩ S; exact S.o (x1 _ _ hls)
  · rintro k ⟨ρk, lk⟩ v ys Lc D mc s hv ⟨x1, hys, hrs⟩ hmv S
    dsimp only at x1 hys hrs S
    obtain ⟨j, hj⟩ : ∃ j, six[k]? = some j := by
      rw [Vo.refs, List.getElem?_map, Option.map_eq_some_iff] at hv
      obtain ⟨x, e, q⟩ := hv; exact ⟨x, e⟩
    refine tests_nil ?_
    rw [if_pos rfl]
    refine eList ⟨_, _, _, S, Nat.zero_le _, fun l0 s' S => ?_⟩
    have nl := S.none_of_nth 5 rfl
    have S := S.give 5 rfl
    have x2 : Ext ρk (upd ρk l0 (.list [])) := ext_upd _ nl
    refine ⟨(upd ρk l0 (.list []), lk ++ [l0]), ⟨x1.trans x2, ?_, ?_⟩, S⟩
    · rw [hys]; simp [adrs]
    · show RowsI _ (lk ++ [l0]) ((six.take (k + 1)).map fun _ => [])
      rw [List.take_add_one, hj, List.map_append]
      exact (hrs.ext x2).snoc (upd_self ..) IL.nil
  rintro ⟨ρ1, bl⟩ ys lb s ⟨x1, hys, hrs⟩ S
  dsimp only at x1 hys hrs S
  have hrs : RowsI ρ1 bl (six.map fun _ => []) := hrs
  subst hys
  refine pairTrees_cons_walk ?_
  refine cStr S fun t3 s' S => ?_
  refine compP_st (τ := τ) (α := Unit) (fun _ => ρ1) (fun _ => [(L, .fr "frame" m0), (L + 1, .cell (some (.int hd th))), (L + 2, .cell (some rv)), (w, .sdict []), (lb, .list (adrs bl))])
    (fun k _ ys => IL ys ((List.range k).map fun k => k * m % 5)) rfl (by rfl) rfl ?_
  refine Call_ (ldB S (T.nog _ rfl) rfl (cwT ?_))
  refine cInt (i := 5) S fun t s' S => xRange (n := 5) S (by decide) fun I s' S => ⟨I, _, 5, _, _, (), rfl, Wp.range hh I 0 1 5, (by show 5 ≤ 100000; decide), S, IL.nil, (fun _ _ _ _ _ _ _ _ => trivial), ?_, ?_⟩
  · rintro k _ v ys Lc D mc s hk ⟨tk, rfl⟩ hys hmv S
    have ek : ((0 : Int) + (k : Int) * 1) = ((k : Nat) : Int) := by omega
    rw [ek] at hmv
    refine tests_nil ?_
    rw [if_pos rfl]
    refine xBin (xBin (ldL S rfl hmv ?_))
    refine xBin ?_
    refine cInt (i := 1) S fun t4 s' S => ?_
    refine xBin (ldC S 2 rfl ?_)
    refine cInt (i := 4) S fun t5 s' S => ?_
    refine oMod (n := 4) S (by decide) fun t6 s' S => ?_
    refine oAdd S fun t7 s' S => ?_
    rw [hm]
    refine PyProof.Rows.mul_int ?_ (IntMulOk.of_left (mul_ok k hk))
    have S := S.tok (s'.toks + 1)
    refine cInt (i := 5) S fun t8 s' S => ?_
    refine oMod (n := 5) S (by decide) fun t9 s' S => ⟨(), ?_, S⟩
    have em : ((k : Int) * (m : Int)) % ((5 : Nat) : Int) = ((k * m % 5 : Nat) : Int) := by push_cast; rfl
    rw [em, List.range_succ, List.map_append]
    exact hys.app (IL.one (k * m % 5) t9)
  rintro _ vr lr s hvr S
  have hvr : IL vr (rankedOf m) := hvr
  refine pairTrees_nil_walk ⟨rfl, str3_nd, S.at 3 rfl, fun s' cg tt => ?_⟩
  have S := S.setL 3 rfl cg tt
  have S : St C ρ1 τ [(L, .fr "frame" m0), (L + 1, .cell (some (.int hd th))), (L + 2, .cell (some rv)), (w, .sdict [("specs", .ref ls), ("bases", .ref lb), ("ranked", .ref lr)]), (lb, .list (adrs bl)), (lr, .list vr)] s' := S
  have n1 := S.none_of_nth 4 rfl
  have S := S.give 4 rfl
  have y1 : Ext ρ1 (upd ρ1 lb (.list (adrs bl))) := ext_upd _ n1
  have e1 : upd ρ1 lb (.list (adrs bl)) lb = some (.list (adrs bl)) := upd_self ..
  have a1 : ls ≠ lb := fun q => by have := x1 _ _ hls; rw [q, n1] at this; cases this
  have a3 : ∀ l, l ∈ bl → l ≠ lb := fun l hl q => by
    obtain ⟨k, hk⟩ := List.mem_iff_getElem?.mp hl
    obtain ⟨_, vs, _, h2, _⟩ := hrs.get hk
    rw [q, n1] at h2; cases h2
  generalize upd ρ1 lb (.list (adrs bl)) = ρ2 at S y1 e1
  have n2 := S.none_of_nth 4 rfl
  have S := S.give 4 rfl
  have y2 : Ext ρ2 (upd ρ2 lr (.list vr)) := ext_upd _ n2
  have e2 : upd ρ2 lr (.list vr) lr = some (.list vr) := upd_self ..
  have a2 : lr ≠ lb := fun q => by rw [q, e1] at n2; cases n2
  generalize upd ρ2 lr (.list vr) = ρ3 at S y2 e2
  refine S.giveE 3 rfl fun ρ4 y3 e3 S => ?_
  refine stL S rfl fun s' S => hOk ρ4 w lb lr bl vr s' (((x1.trans y1).trans y2).trans y3) ⟨e3, y3 _ _ (y2 _ _ (y1 _ _ (x1 _ _ hls))), y3 _ _ (y2 _ _ e1), hrs.ext ((y1.trans y2).trans y3), y3 _ _ e2, hvr⟩ ⟨a1, a2, a3⟩ S
end
end Mine
end
section
open PySem PySem.W PyProof.Rows PySem.Calls
set_option Elab.async false
set_option genSizeOf false
set_option genInjectivity false
set_option maxRecDepth 100000
set_option linter.unusedVariables false
set_option linter.unusedSimpArgs false
set_option maxHeartbeats 1000000
namespace Mine
open PySem (Sem Str Value Heap Obj Shared)
theorem small_2b : ∀ n : Nat, n ≤ 100 → Builtin.Range.small 0 n 2 = true := by decide +kernel
theorem size_2b : ∀ n : Nat, n ≤ 100 → Builtin.Range.rangeSize 0 n 2 = ((n + 1) / 2 : Nat) := by decide +kernel
structure LawInv (ρ : Wd) (a : Adr) (V : Vo) (g : Gs) (ranked : List Nat) (w ls lb lr : Addr) (bl : List Addr) (vr : List Value) : Prop where
  spx : Spx ρ a V g
  gok : g.Ok V
  con : g.Con V
  set : Settled V g
  wl : WorldAt ρ V g.bs ranked w ls lb lr bl vr
  wq : WorldAp ls lb lr bl
  rk : RkOk V.live g.bs ranked
theorem LawInv.ext {ρ ρ' : Wd} {a : Adr} {V : Vo} {g : Gs} {ranked : List Nat} {w ls lb lr : Addr} {bl : List Addr} {vr : List Value} (I : LawInv ρ a V g ranked w ls lb lr bl vr) (x : Ext ρ ρ') : LawInv ρ' a V g ranked w ls lb lr bl vr :=
  ⟨I.spx.ext x, I.gok, I.con, I.set, I.wl.ext x, I.wq, I.rk⟩
structure Plain (V : Vo) : Prop where
  tell : ∀ g, g.Ok V → TellOk V g
  so : ∀ g, g.Ok V → Settled V g → ∀ i, V.live i → g.so i = lOrd true (V.wo g) i
structure LawV (V : Vo) (ranked : List Nat) : Prop where
  ok : V.Ok
  pos : RkPos V ranked
  all : ∀ i, i < 6 → V.live i
  five : ranked.length = 5
  mem : ∀ i, i < 5 → i ∈ ranked
  plain : Plain V
structure LawS where
  m : Mp
  g : Gs
  ρ : Wd
  bl : List Addr
section
variable {C : Cx} {a : Adr} {ρ : Wd} {τ σ : Lc} {s : Shared} {A : Around} {E : Value → Shared → Prop} {R : Result → Shared → Prop} {l : Addr} {xs ys : List Value} {v : Value}
theorem xRange2b {ρ : Wd} {σ : Lc} {n : Nat} {t u v : Tok} {Q : Value → Shared → Prop} (S : St C ρ τ σ s) (hn : n ≤ 100) (h : ∀ I s', St C ρ ((I, rgI 0 2 ((n + 1) / 2) 0) :: τ) σ s' → Q (.ref I) s') :
    wpAny C.M A (call (.type "range") [.int 0 t, .int n u, .int 2 v]) (fun v s₁ => wpAny C.M A (pyIter v) Q E s₁) E s := by
  refine call_range_3 (by decide) ?_ (.inl (PyProof.noPylong_small (by decide)))
  have S1 := (S.grow (pushG s { cls := .type "range", data := .fields #[.int 0 t, .int n u, .int 2 v] }))
  refine wpAny_pyIter_range (IsRange.new _ _ _ _ _ _ _) (small_2b n hn) ?_
  rw [size_2b n hn]
  refine h _ _ (S1.addT (pushG _ _) (none_size _) ⟨_, Heap.get?_push_size _ rfl, ?_⟩)
  simp
  exact .refl _
theorem sIdxL {value slice : Expr} {i : Int} {t : Tok} {Q : Value → Shared → Prop} (hl : s.heap.IsList l xs.toArray) (hx : xs[i.toNat]? = some v) (h0 : 0 ≤ i) (hz : i < 2 ^ 63) (h : Q v s)
    (hs : subscripted slice false (.ref l) (.int i t) = operate [.ref l, .int i t] (getItem (.ref l) (.int i t)) := by with_unfolding_all rfl) :
    wpAny C.M A (subscriptTail value slice (.ref l) (.int i t)) Q E s :=
  tail_any hl.typeIs slot_list_getitem.lookup (wpAny_getItem_list hl h0 hz (by simpa using hx) h) hs
theorem tListL {Q : Bool → Shared → Prop} (S : St C ρ τ σ s) (hl : s.heap.IsList l xs.toArray) (hz : xs.length ≤ Big) (h : ∀ s', St C ρ τ σ s' → Q (!xs.isEmpty) s') : wpAny C.M A (truthy (.ref l)) Q E s :=
  wpAny_truthy_list hl (by rw [List.size_toArray]; have : xs.length ≤ 100000 := hz; ((with_reducible refine oz5 ‹_› ?_); exact rfl)) (by
    have := h _ (S.tok (s.toks + 1 + 1))
    have e : xs.toArray.isEmpty = xs.isEmpty := by cases xs <;> rfl
    rw [e]; exact this)
theorem sSliceL {value slice : Expr} {vl vu vk : Value} {lo hi st : Option Int} {ops : List Value} {Q : Value → Shared → Prop} (S : St C ρ τ σ s) (hl' : s.heap.IsList l xs.toArray) (pl : IsPart vl lo) (pu : IsPart vu hi) (pk : IsPart vk st) (h0 : st ≠ some 0) (hz : xs.length ≤ Big)
    (h : ∀ r s', St C ρ τ (σ ++ [(r, .list (slicePick xs.toArray lo hi st).toList)]) s' → Q (.ref r) s')
    (hs : subscripted slice false (.ref l) (.ref s.heap.objs.size) = operate ops (getItem (.ref l) (.ref s.heap.objs.size)) := by with_unfolding_all rfl) :
    wpAny C.M A (subscriptTail value slice (.ref l) (.ref s.heap.objs.size)) Q E { s with heap := s.heap.push { cls := .type "slice", data := .fields #[vl, vu, vk] } } := by
  refine tail_any (Heap.IsList.typeIs (s := { s with heap := s.heap.push { cls := .type "slice", data := .fields #[vl, vu, vk] } }) (hl'.push _)) slot_list_getitem.lookup
    (wpAny_getItem_list_slice (hl'.push _) (Heap.IsSliceOf.new ..) pl pu pk h0 ?_ (sz_toArray hz)) hs
  have S1 := S.grow (pushG s { cls := .type "slice", data := .fields #[vl, vu, vk] })
  have S2 := S1.newList (slicePick xs.toArray lo hi st).toList
  rw [show (slicePick xs.toArray lo hi st).toList.toArray = slicePick xs.toArray lo hi st from by simp] at S2
  exact h _ _ S2
theorem base_list (O : Amb C s.heap) (h : C.hb.IsList l xs.toArray) : s.heap.IsList l xs.toArray := by
  obtain ⟨o, e, c, r⟩ := h
  have nt := notTab O.ok o e (by rw [c]; decide)
  exact ⟨o, O.old l o e nt.1 nt.2, c, r⟩
theorem la_item {L sl : Addr} {cdv : Value} {mp : Mp} {ks : List Int} {j : Nat} {tj : Tok} {rest : Lc} (T : Text C a) (hl : ∀ {s : Shared}, St C ρ τ ((L, .fr "frame" mp) :: rest) s → s.heap.IsList sl xs.toArray) (hi : IntsAre xs ks) (hz : xs.length ≤ 1000) {nm ix : Str} {px py pz pw pq pr ps pt : Pos} {k1 : Nat} {Q : Value → Shared → Prop}
    (S : St C ρ τ ((L, .fr "frame" mp) :: rest) s) (q1 : mp nm = some (.ref sl)) (q2 : mp ix = some (.int (j : Nat) tj)) (hj : j ≤ 1000) {e1 e2 : Expr}
    (he1 : ∀ {Q : Value → Shared → Prop} {s : Shared}, St C ρ τ ((L, .fr "frame" mp) :: rest) s → (∀ t s', St C ρ τ ((L, .fr "frame" mp) :: rest) s' → Q (.int ((j : Nat) + 1 : Nat) t) s') → wpAny C.M A (eval e1 (laE L a cdv)) Q E s)
    (he2 : ∀ {Q : Value → Shared → Prop} {s : Shared}, St C ρ τ ((L, .fr "frame" mp) :: rest) s → (∀ t s', St C ρ τ ((L, .fr "frame" mp) :: rest) s' → Q (.int ((j : Nat) + 1 : Nat) t) s') → wpAny C.M A (eval e2 (laE L a cdv)) Q E s)
    (hsub : ∀ o i, subscripted e2 false o i = operate [o, i] (getItem o i)) (hk : (laE L a cdv).kindOf nm = some .local) (hd : (nm == ("__debug__" : Str)) = false)
    (h : ∀ n t s', St C ρ τ ((L, .fr "frame" mp) :: rest) s' → Q (.int n t) s') :
    wpAny C.M A (eval (.IfExp (.Compare e1 [.Lt] [.Call (.Name "len" px) [.Name nm py] [] pz] pw) (.Subscript (.Name nm pq) e2 pr) (.Constant (.int 0) k1 ps) pt) (laE L a cdv)) Q E s := by
  refine IfExp_ (xCmp (he1 S fun t1 s' S => ?_) rfl)
  refine Call_ (ldB S (T.nog _ rfl) rfl (cwB (ldL S rfl q1 (bLen S (hl S) (Nat.le_trans hz (by decide)) fun t2 s' S => wpAny_lt_int (wpAny_truthy_bool ?_)) rfl hk hd)))
  by_cases hlt : j + 1 < xs.length
  · rw [decide_eq_true (show (((j + 1 : Nat) : Int) < ((xs.length : Nat) : Int)) by omega), if_pos rfl]
    refine xSub (ldL S rfl q1 (he2 S fun t3 s' S => ?_) rfl hk hd)
    obtain ⟨v, hv⟩ : ∃ v, xs[j + 1]? = some v := ⟨_, List.getElem?_eq_getElem hlt⟩
    obtain ⟨n, tn, rfl, _⟩ := IntsAre.at hi (j + 1) v hv
    exact sIdxL (hl S) (by rw [Int.toNat_natCast]; exact hv) (by (with_reducible exact Int.natCast_nonneg _)) (by omega) (h n tn s' S) (hsub _ _)
  · rw [decide_eq_false (show ¬ (((j + 1 : Nat) : Int) < ((xs.length : Nat) : Int)) by omega), if_neg Bool.false_ne_true]
    exact cInt (i := 0) S fun t3 s' S => h 0 t3 s' S
end
end Mine
end
section
open PySem PySem.W PyProof.Rows PySem.Calls
set_option Elab.async false
set_option maxRecDepth 100000
set_option linter.unusedVariables false
set_option linter.unusedSimpArgs false
set_option maxHeartbeats 1000000
namespace Mine
open PySem (Sem Str Value Heap Obj Shared)
section
variable {C : Cx} {a : Adr} {ρ : Wd} {τ σ : Lc} {s : Shared} {A : Around} {E : Value → Shared → Prop} {R : Result → Shared → Prop} {V : Vo} {g : Gs} {ranked : List Nat} {w ls lb lr : Addr} {bl : List Addr} {vr : List Value} {l : List Env}
noncomputable abbrev laσ (L : Addr) (m : Mp) (hc rc : Option Value) : Lc := [(L, .fr "frame" m), (L + 1, .cell hc), (L + 2, .cell rc)]
theorem la_turn {L : Addr} {cdv : Value} {m0 : Mp} {hc rc : Option Value} {ex : Lc} {i : Nat} {t tn : Tok} {num : Int} (T : Text C a) (TR : TextR C a) (TO : TextO C a) (TS : TextS C a) (TL : TextL C a) (LV : LawV V ranked) (IV : LawInv ρ a V g ranked w ls lb lr bl vr) (hi : i < 5) (S : St C ρ τ (laσ L m0 hc rc ++ ex) s)
    (r : Rm A 64) (hh : A.handled = none) (hA : A.frames = some (laE L a cdv :: l)) (hF : FrOk τ l)
    (hOk : ∀ ρ' s' g' bl', LawInv ρ' a V g' ranked w ls lb lr bl' vr → St C ρ' τ (laσ L m0 hc rc ++ ex) s' → R (.ok (.ret .none)) s') :
    codeAny C.M A (.call (.ref a.lTurn) ⟨[.ref w, .int (i : Nat) t, .int num tn], []⟩) R s := by
  obtain ⟨p, hp⟩ := List.mem_iff_getElem?.mp (LV.mem i hi)
  exact lTurn_ok T TR TO TS TL LV.ok IV.gok IV.con IV.set IV.spx LV.all IV.wl IV.wq IV.rk LV.pos hp S r hh hA (FrOk.cons rfl rfl (.head _) (hF.mono fun p hp => List.mem_append_right _ hp)) fun ρ' s' g' bl' a1 a2 a3 a4 a5 a6 a7 S' => hOk ρ' s' g' bl' ⟨a1, a2, a3, a4, a5, a6, a7⟩ S'
theorem la_looks {L : Addr} {cdv : Value} {m0 : Mp} {hc rc : Option Value} {ex : Lc} {d : Int} {t : Tok} (T : Text C a) (TR : TextR C a) (TO : TextO C a) (TL : TextL C a) (LV : LawV V ranked) (IV : LawInv ρ a V g ranked w ls lb lr bl vr) (S : St C ρ τ (laσ L m0 hc rc ++ ex) s)
    (r : Rm A 62) (hh : A.handled = none) (hA : A.frames = some (laE L a cdv :: l)) (hF : FrOk τ l)
    (hOk : ∀ ρ' s', Ext ρ ρ' → St C ρ' τ (laσ L m0 hc rc ++ ex) s' → R (.ok (.ret (.bool true))) s') :
    codeAny C.M A (.call (.ref a.lLooks) ⟨[.ref w, .int d t], []⟩) R s :=
  lLooks_ok T TR TO TL LV.ok IV.gok IV.spx LV.all IV.wl IV.rk LV.five LV.mem (LV.plain.tell g IV.gok) (LV.plain.so g IV.gok IV.set) S r hh hA (FrOk.cons rfl rfl (.head _) (hF.mono fun p hp => List.mem_append_right _ hp)) hOk
structure LaP (a : Adr) (V : Vo) (w sl ls lb lr : Addr) (vr : List Value) (ranked : List Nat) (k : Nat) (y : LawS) : Prop where
  f1 : y.m "world" = some (.ref w)
  f2 : y.m "script" = some (.ref sl)
  f3 : y.m "specs" = some (.ref ls)
  f4 : LawInv y.ρ a V y.g ranked w ls lb lr y.bl vr
theorem la_turns {L sl : Addr} {cdv : Value} {m0 : Mp} {hc rc : Option Value} {xs : List Value} {ks : List Int} (T : Text C a) (TR : TextR C a) (TO : TextO C a) (TS : TextS C a) (TL : TextL C a) (LV : LawV V ranked) (IV : LawInv ρ a V g ranked w ls lb lr bl vr) (S : St C ρ τ (laσ L m0 hc rc) s)
    (q1 : m0 "world" = some (.ref w)) (q2 : m0 "script" = some (.ref sl)) (q3 : m0 "specs" = some (.ref ls)) (hsl : C.hb.IsList sl xs.toArray) (hi : IntsAre xs ks) (hz : xs.length ≤ 1000) (r : Rm A 64) (hh : A.handled = none) (hA : A.frames = some (laE L a cdv :: l)) (hF : FrOk τ l) {Q : Flow → Shared → Prop}
    (hOk : ∀ m' g' ρ' bl' s', m' "world" = some (.ref w) → m' "script" = some (.ref sl) → m' "specs" = some (.ref ls) → LawInv ρ' a V g' ranked w ls lb lr bl' vr → St C ρ' τ (laσ L m' hc rc) s' → Q .next s') :
    wpAny C.M A (exec (nthS (topF 23).body 4) (laE L a cdv)) Q E s := by
  refine xFor (Call_ (ldB S (T.nog _ rfl) rfl (cwT ?_)))
  refine cInt (i := 5) S fun t s' S => xRange (n := 5) S (by decide) fun I s' S => ?_
  refine forP_t (α := LawS) (τ := τ) (E' := fun _ _ => False) (Wp.range hh I 0 1 5) (fun y => y.ρ) (fun y => laσ L y.m hc rc)
    (LaP a V w sl ls lb lr vr ranked) noE (fun _ _ _ _ _ _ => trivial) ⟨m0, g, ρ, bl⟩ S ⟨q1, q2, q3, IV⟩ ?_ ?_
  · rintro k Qb Eb hQb hEb hRb ⟨mk, gk, ρk, bk⟩ v s hk ⟨tk, rfl⟩ ⟨p1, p2, p3, p4⟩ S
    dsimp only at p1 p2 p3 p4 S
    have ek : ((0 : Int) + (k : Int) * 1) = ((k : Nat) : Int) := by omega
    rw [ek]
    refine wpAny_of_eq (a := ()) rfl (wpAny_assign_Name (stL S rfl fun s' S => ?_))
    refine pk5 (P1 := fun (m1 : Mp) => St C ρk ((I, rgI 0 1 5 (k + 1)) :: τ) (laσ L m1 hc rc) s') (P2 := fun (m1 : Mp) => m1 "world" = some (.ref w)) (P3 := fun (m1 : Mp) => m1 "script" = some (.ref sl)) (P4 := fun (m1 : Mp) => m1 "specs" = some (.ref ls)) (P5 := fun (m1 : Mp) => m1 "at" = some (.int (k : Nat) tk)) (mk.put "at" (.int (k : Nat) tk)) (S) (p1) (p2) (p3) (rfl) fun m1 S p1 p2 p3 p5 => ?_
    refine xcons (wpAny_Expr_any (Call_ (ldG S (T.glob _ _ rfl) (cwK TL.fTurn.keep (ldL S rfl p1 (ldL S rfl p5 ?_))))))
    refine ArgsTo.cons ?_
    refine la_item (ix := "at") T (fun S => base_list S.amb hsl) hi hz S p2 p5 (by ((with_reducible refine oz13 ‹_› ?_); exact rfl)) (fun {Q s} S h => ?_) (fun {Q s} S h => ?_) ?_ ?_ ?_ fun num tn s' S => ?_
    rotate_left 2
    · exact fun _ _ => rfl
    · exact rfl
    · exact rfl
    rotate_left
    · refine xBin ?_
      refine cInt (i := 1) S fun t1 s' S => ldL S rfl p5 (oAdd S fun t2 s' S => ?_)
      have e : (1 : Int) + ((k : Nat) : Int) = ((k + 1 : Nat) : Int) := by push_cast; omega
      rw [e]; exact h t2 s' S
    · refine xBin ?_
      refine cInt (i := 1) S fun t1 s' S => ldL S rfl p5 (oAdd S fun t2 s' S => ?_)
      have e : (1 : Int) + ((k : Nat) : Int) = ((k + 1 : Nat) : Int) := by push_cast; omega
      rw [e]; exact h t2 s' S
    refine ⟨S.amb.x, callC ?_⟩
    refine la_turn (m0 := m1) (hc := hc) (rc := rc) (ex := []) T TR TO TS TL LV p4 hk S (r.le (by decide)) hh hA (hF.mono fun p hp => .tail _ hp) fun ρ' s' g' bl' IV' S' => ?_
    exact wpAny_execs_nil (hQb ⟨m1, g', ρ', bl'⟩ _ ⟨p1, p2, p3, IV'⟩ S')
  · rintro ⟨mk, gk, ρk, bk⟩ s ⟨p1, p2, p3, p4⟩ S
    exact wpAny_execs_nil (hOk mk gk ρk bk s p1 p2 p3 p4 S)
structure LaQ (a : Adr) (V : Vo) (w ln ls lb lr : Addr) (vr : List Value) (ranked : List Nat) (k : Nat) (y : LawS) : Prop where
  f1 : y.m "world" = some (.ref w)
  f2 : y.m "numbers" = some (.ref ln)
  f3 : y.m "specs" = some (.ref ls)
  f4 : LawInv y.ρ a V y.g ranked w ls lb lr y.bl vr
theorem la_loop {L ln : Addr} {cdv : Value} {m0 : Mp} {hc rc : Option Value} {xs : List Value} {ks : List Int} (T : Text C a) (TR : TextR C a) (TO : TextO C a) (TS : TextS C a) (TL : TextL C a) (LV : LawV V ranked) (IV : LawInv ρ a V g ranked w ls lb lr bl vr) (S : St C ρ τ (laσ L m0 hc rc ++ [(ln, .list xs)]) s)
    (q1 : m0 "world" = some (.ref w)) (q2 : m0 "numbers" = some (.ref ln)) (q3 : m0 "specs" = some (.ref ls)) (hi : IntsAre xs ks) (hz : xs.length ≤ 100) (r : Rm A 64) (hh : A.handled = none) (hA : A.frames = some (laE L a cdv :: l)) (hF : FrOk τ l) {Q : Flow → Shared → Prop}
    (hOk : ∀ m' g' ρ' bl' s', m' "specs" = some (.ref ls) → LawInv ρ' a V g' ranked w ls lb lr bl' vr → St C ρ' τ (laσ L m' hc rc ++ [(ln, .list xs)]) s' → Q .next s') :
    wpAny C.M A (exec (nthS (topF 23).body 7) (laE L a cdv)) Q E s := by
  refine xFor (Call_ (ldB S (T.nog _ rfl) rfl (cwT ?_)))
  refine cInt (i := 0) S fun t s' S => Call_ (ldB S (T.nog _ rfl) rfl (cwB (ldL S rfl q2 (xLen S (S.at 3 rfl) (Nat.le_trans hz (by decide)) fun t2 s' S => ?_))))
  refine cInt (i := 2) S fun t3 s' S => xRange2b S hz fun I s' S => ?_
  refine forP_t (α := LawS) (τ := τ) (E' := fun _ _ => False) (Wp.range hh I 0 2 ((xs.length + 1) / 2)) (fun y => y.ρ) (fun y => laσ L y.m hc rc ++ [(ln, .list xs)])
    (LaQ a V w ln ls lb lr vr ranked) noE (fun _ _ _ _ _ _ => trivial) ⟨m0, g, ρ, bl⟩ S ⟨q1, q2, q3, IV⟩ ?_ ?_
  · rintro k Qb Eb hQb hEb hRb ⟨mk, gk, ρk, bk⟩ v s hk ⟨tk, rfl⟩ ⟨p1, p2, p3, p4⟩ S
    dsimp only at p1 p2 p3 p4 S
    have ek : ((0 : Int) + (k : Int) * 2) = ((2 * k : Nat) : Int) := by push_cast; omega
    rw [ek]
    have hk2 : 2 * k < xs.length := by omega
    obtain ⟨v, hv⟩ : ∃ v, xs[2 * k]? = some v := ⟨_, List.getElem?_eq_getElem hk2⟩
    obtain ⟨n, tn, rfl, _⟩ := IntsAre.at hi (2 * k) v hv
    have hvn : xs[(((2 * k : Nat) : Int)).toNat]? = some (.int n tn) := by rw [Int.toNat_natCast]; exact hv
    refine pk2 (P1 := fun (j : Nat) => j < 5) (P2 := fun (j : Nat) => n % ((5 : Nat) : Int) = (j : Int)) ((n % 5).toNat) (by omega) (by omega) fun j hj ej => ?_
    refine wpAny_of_eq (a := ()) rfl (wpAny_assign_Name (stL S rfl fun s' S => ?_))
    refine pk5 (P1 := fun (m1 : Mp) => St C ρk ((I, rgI 0 2 ((xs.length + 1) / 2) (k + 1)) :: τ) (laσ L m1 hc rc ++ [(ln, .list xs)]) s') (P2 := fun (m1 : Mp) => m1 "world" = some (.ref w)) (P3 := fun (m1 : Mp) => m1 "numbers" = some (.ref ln)) (P4 := fun (m1 : Mp) => m1 "specs" = some (.ref ls)) (P5 := fun (m1 : Mp) => m1 "at" = some (.int ((2 * k : Nat) : Int) tk)) (mk.put "at" (.int ((2 * k : Nat) : Int) tk)) (S) (p1) (p2) (p3) (rfl) fun m1 S p1 p2 p3 p5 => ?_
    refine xcons (wpAny_Expr_any (Call_ (ldG S (T.glob _ _ rfl) (cwK TL.fTurn.keep (ldL S rfl p1 (xBin (xSub (ldL S rfl p2 (ldL S rfl p5 (sIdx (S.at 3 rfl) hvn (by (with_reducible exact Int.natCast_nonneg _)) (by omega) ?_))))))))))
    refine cInt (i := 5) S fun t4 s' S => oMod (n := 5) S (by decide) fun t5 s' S => ?_
    rw [ej]
    refine ArgsTo.cons ?_
    refine la_item (ix := "at") (j := 2 * k) T (fun S => (S.at 3 rfl : (AObj.list xs).At C _ ln).isList) hi (Nat.le_trans hz (by decide)) S p2 p5 (by omega) (fun {Q s} S h => ?_) (fun {Q s} S h => ?_) ?_ ?_ ?_ fun num tn s' S => ?_
    rotate_left 2
    · exact fun _ _ => rfl
    · exact rfl
    · exact rfl
    rotate_left
    · refine xBin (ldL S rfl p5 ?_)
      refine cInt (i := 1) S fun t1 s' S => oAdd S fun t2 s' S => ?_
      have e : ((2 * k : Nat) : Int) + 1 = ((2 * k + 1 : Nat) : Int) := by push_cast; omega
      rw [e]; exact h t2 s' S
    · refine xBin (ldL S rfl p5 ?_)
      refine cInt (i := 1) S fun t1 s' S => oAdd S fun t2 s' S => ?_
      have e : ((2 * k : Nat) : Int) + 1 = ((2 * k + 1 : Nat) : Int) := by push_cast; omega
      rw [e]; exact h t2 s' S
    refine ⟨S.amb.x, callC ?_⟩
    refine la_turn (m0 := m1) (hc := hc) (rc := rc) (ex := [(ln, .list xs)]) T TR TO TS TL LV p4 hj S (r.le (by decide)) hh hA (hF.mono fun p hp => .tail _ hp) fun ρ' s' g' bl' IV' S => ?_
    refine xcons (wpAny_If (isTrue_not (isTrue_plain (Call_ (ldG S (T.glob _ _ rfl) (cwK TL.fLooks.keep (ldL S rfl p1 (xBin (xSub (ldL S rfl p2 (ldL S rfl p5 (sIdx (S.at 3 rfl) hvn (by (with_reducible exact Int.natCast_nonneg _)) (by omega) ?_))))))))))))
    refine cInt (i := 5) S fun t4 s' S => oDiv (n := 5) S (by decide) (by decide) fun t5 s' S => ⟨S.amb.x, callC ?_⟩
    refine la_looks (m0 := m1) (hc := hc) (rc := rc) (ex := [(ln, .list xs)]) T TR TO TL LV IV' S (r.le (by decide)) hh hA (hF.mono fun p hp => .tail _ hp) fun ρ'' s' x' S => wpAny_truthy_bool ?_
    rw [if_neg (show ¬ ((!true) = true) from Bool.false_ne_true)]
    exact wpAny_execs_nil (wpAny_execs_nil (hQb ⟨m1, g', ρ'', bl'⟩ _ ⟨p1, p2, p3, IV'.ext x'⟩ S))
  · rintro ⟨mk, gk, ρk, bk⟩ s ⟨p1, p2, p3, p4⟩ S
    exact wpAny_execs_nil (hOk mk gk ρk bk s p3 p4 S)
end
end Mine
end
section
open PySem PySem.W PyProof.Rows PySem.Calls
set_option Elab.async false
set_option maxRecDepth 100000
set_option linter.unusedVariables false
set_option linter.unusedSimpArgs false
set_option maxHeartbeats 1000000
namespace Mine
open PySem (Sem Str Value Heap Obj Shared)
section
variable {C : Cx} {a : Adr} {ρ : Wd} {τ σ : Lc} {s : Shared} {A : Around} {E : Value → Shared → Prop} {R : Result → Shared → Prop} {V : Vo} {g : Gs} {ranked : List Nat} {l : List Env}
theorem la_head {L sl : Addr} {cdv : Value} {m0 : Mp} {hc rc : Option Value} {xs : List Value} {ks : List Int} (T : Text C a) (S : St C ρ τ (laσ L m0 hc rc) s) (q1 : m0 "script" = some (.ref sl)) (hsl : C.hb.IsList sl xs.toArray) (hi : IntsAre xs ks) (hz : xs.length ≤ 63) {Q : Flow → Shared → Prop}
    (hOk : ∀ n t s', St C ρ τ (laσ L m0 (some (.int n t)) rc) s' → Q .next s') :
    wpAny C.M A (exec (nthS (topF 23).body 0) (laE L a cdv)) Q E s := by
  refine xAsg (IfExp_ (isTrue_plain (ldL S rfl q1 (tListL S (base_list S.amb hsl) (Nat.le_trans hz (by decide)) fun s' S => ?_))))
  cases xs with
  | nil =>
    rw [if_neg (show ¬ ((!List.isEmpty ([] : List Value)) = true) by decide)]
    exact cInt (i := 0) S fun t s' S => stC S 1 rfl fun s' S => hOk 0 t s' S
  | cons v r =>
    rw [if_pos (show ((!List.isEmpty (v :: r)) = true) from rfl)]
    obtain ⟨n, tn, e, _⟩ := IntsAre.at hi 0 v rfl
    cases e
    refine xSub (ldL S rfl q1 ?_)
    exact cInt (i := 0) S fun t s' S => sIdxL (base_list S.amb hsl) rfl (by decide) (by decide) (stC S 1 rfl fun s' S => hOk n tn s' S)
theorem la_numbers {L sl : Addr} {cdv : Value} {m0 : Mp} {hc rc : Option Value} {xs : List Value} {ks : List Int} (T : Text C a) (S : St C ρ τ (laσ L m0 hc rc) s) (q1 : m0 "script" = some (.ref sl)) (hsl : C.hb.IsList sl xs.toArray) (hi : IntsAre xs ks) (hz : xs.length ≤ 63) {Q : Flow → Shared → Prop}
    (hOk : ∀ ln ys js s', IntsAre ys js → ys.length ≤ 100 → St C ρ τ (laσ L (m0.put "numbers" (.ref ln)) hc rc ++ [(ln, .list ys)]) s' → Q .next s') :
    wpAny C.M A (exec (nthS (topF 23).body 5) (laE L a cdv)) Q E s := by
  refine xAsg (xSub (ldL S rfl q1 ?_))
  refine wpAny_Slice ?_
  rw [evalPart_some]
  refine cInt (i := 6) S fun t1 s' S => ?_
  rw [evalPart_some]
  refine cInt (i := 14) S fun t2 s' S => wpAny_pure ?_
  refine sSliceL (lo := some 6) (hi := some 14) (st := none) S (base_list S.amb hsl) (.int _ _) (.int _ _) .none (by decide) (Nat.le_trans hz (by decide)) fun r2 s' S => ?_
  have hp := IntsAre.pick hi (some 6) (some 14) none
  have hl := length_pickNums_le hi (some 6) (some 14) none
  exact stL S rfl fun s' S => hOk r2 _ _ s' hp (by rw [hp.length]; have := hi.length; omega) S
theorem law_ok {td sl : Addr} {xs : List Value} {ks : List Int} (T : Text C a) (TR : TextR C a) (TO : TextO C a) (TS : TextS C a) (TI : TextI C a) (TD : TextD C a td) (TL : TextL C a) (fl : FnAt C.K a.law "law" (topF 23) .none)
    (HP : ∀ m V g, m < 5 → 0 < m → MadeK m V g 5 → Plain V) (hsl : C.hb.IsList sl xs.toArray) (hi : IntsAre xs ks) (hz : xs.length ≤ 63) (S : St C ρ τ σ s) (etd : ρ td = some (.tup []))
    (r : Rm A 68) (hh : A.handled = none) (hA : A.frames = some l) (hF : FrOk (σ ++ τ) l)
    (hOk : ∀ ρ' s', St C ρ' τ σ s' → R (.ok (.ret (.bool true))) s') :
    codeAny C.M A (.call (.ref a.law) ⟨[.ref sl], []⟩) R s := by
  refine enter S fl r.d (binds := [("script", .ref sl)]) (fun _ _ _ _ _ _ => BindsTo.of_eq rfl) fun L cdv s' S => ?_
  refine pk2 (P1 := fun (m0 : Mp) => St C ρ (σ ++ τ) (laσ L m0 none none) s') (P2 := fun (m0 : Mp) => m0 "script" = some (.ref sl)) _ (S.perm (List.Perm.append_right _ ((List.Perm.swap _ _ _).cons _))) (rfl) fun m0 S q1 => ?_
  have rD : Rm (A.deeper (laE L a cdv)) 67 := r.deeper (n := 67) _
  have hAD : (A.deeper (laE L a cdv)).frames = some (laE L a cdv :: l) := Around.frames_deeper hA
  have hu : (A.deeper (laE L a cdv)).units + 64 < cLine := by
    have := rD.2
    have h3 : (9900 : Nat) ≤ cLine := by decide
    omega
  have hFO : ∀ {m : Mp} {h r : Option Value}, FrOk (laσ L m h r ++ (σ ++ τ)) (laE L a cdv :: l) := FrOk.cons rfl rfl (.head _) (hF.mono fun p hp => List.mem_append_right _ hp)
  refine xcons (la_head (A := A.deeper (laE L a cdv)) T S q1 hsl hi hz fun hd th s' S => ?_)
  refine pk3 (P1 := fun (m : Nat) => m < 5) (P2 := fun (m : Nat) => 0 < m) (P3 := fun (m : Nat) => 1 + hd % ((4 : Nat) : Int) = (m : Int)) ((1 + hd % 4).toNat) (by omega) (by omega) (by omega) fun m hm5 hm0 em => ?_
  refine xcons (la_root (A := A.deeper (laE L a cdv)) T TR TO TS TI TD hm5 hm0 S etd (rD.le (by decide)) hh hAD hFO fun V0 g0 ρ0 s' M0 SX0 S => ?_)
  refine xcons (la_specs (A := A.deeper (laE L a cdv)) T TR TO TS TI TD hm5 hm0 M0 SX0 S (rD.le (by decide)) hh hAD (hF.mono fun p hp => hp) fun V g ρ1 ls s' M hx5 SX els S => ?_)
  refine pk3 (P1 := fun (m1 : Mp) => St C ρ1 (σ ++ τ) (laσ L m1 (some (.int hd th)) (some (.ref (V.x 5)))) s') (P2 := fun (m1 : Mp) => m1 "script" = some (.ref sl)) (P3 := fun (m1 : Mp) => m1 "specs" = some (.ref ls)) (m0.put "specs" (.ref ls)) (S) (q1) (rfl) fun m1 S q1 q2 => ?_
  refine xcons (la_world (A := A.deeper (laE L a cdv)) T em S q2 els hh fun ρ2 w lb lr bl vr s' x2 Wl Wq S => ?_)
  refine pk4 (P1 := fun (m2 : Mp) => St C ρ2 (σ ++ τ) (laσ L m2 (some (.int hd th)) (some (.ref (V.x 5)))) s') (P2 := fun (m2 : Mp) => m2 "script" = some (.ref sl)) (P3 := fun (m2 : Mp) => m2 "specs" = some (.ref ls)) (P4 := fun (m2 : Mp) => m2 "world" = some (.ref w)) (m1.put "world" (.ref w)) (S) (q1) (q2) (rfl) fun m2 S q1 q2 q3 => ?_
  obtain ⟨RK, RP, RA⟩ := M.rk_ok hm5 hm0
  have LV : LawV V (rankedOf m) := ⟨M.ok, RP, RA, ranked_len m, ranked_in m hm5 hm0, HP m V g hm5 hm0 M⟩
  have IV : LawInv ρ2 a V g (rankedOf m) w ls lb lr bl vr := ⟨SX.ext x2, M.gok, M.con, M.set, by rw [M.bs]; exact Wl, Wq, RK⟩
  refine xcons (la_turns (A := A.deeper (laE L a cdv)) T TR TO TS TL LV IV S q3 q1 q2 hsl hi (Nat.le_trans hz (by decide)) (rD.le (by decide)) hh hAD hF fun m3 g3 ρ3 bl3 s' q3 q1 q2 IV S => ?_)
  refine xcons (la_numbers (A := A.deeper (laE L a cdv)) T S q1 hsl hi hz fun ln ys js s' hj hy S => ?_)
  refine pk4 (P1 := fun (m4 : Mp) => St C ρ3 (σ ++ τ) (laσ L m4 (some (.int hd th)) (some (.ref (V.x 5))) ++ [(ln, .list ys)]) s') (P2 := fun (m4 : Mp) => m4 "specs" = some (.ref ls)) (P3 := fun (m4 : Mp) => m4 "world" = some (.ref w)) (P4 := fun (m4 : Mp) => m4 "numbers" = some (.ref ln)) (m3.put "numbers" (.ref ln)) (S) (q2) (q3) (rfl) fun m4 S q2 q3 q4 => ?_
  refine xcons (wpAny_If (isTrue_not (isTrue_plain (Call_ (ldG S (T.glob _ _ rfl) (cwK TL.fLooks.keep (ldL S rfl q3 (xBin (ldC S 1 rfl ?_)))))))))
  refine cInt (i := 4) S fun t4 s' S => oDiv (n := 4) S (by decide) (by decide) fun t5 s' S => ⟨S.amb.x, callC ?_⟩
  refine la_looks (m0 := m4) (ex := [(ln, .list ys)]) T TR TO TL LV IV S (rD.le (by decide)) hh hAD hF fun ρ4 s' x4 S => wpAny_truthy_bool ?_
  rw [if_neg (show ¬ ((!true) = true) from Bool.false_ne_true)]
  refine wpAny_execs_nil (xcons (la_loop (A := A.deeper (laE L a cdv)) T TR TO TS TL LV (IV.ext x4) S q3 q4 q2 hj hy (rD.le (by decide)) hh hAD hF fun m5 g5 ρ5 bl5 s' q2 IV S => ?_))
  obtain ⟨e1, ⟨z, mm, e2, _, MM⟩, _, _⟩ := IV.spx 5 (LV.all 5 (by decide))
  obtain ⟨t5, s1, s2⟩ := MM.sro
  rw [LV.plain.so g5 IV.gok IV.set 5 (LV.all 5 (by decide)), lOrd_five] at s2
  have hsp : (V.refs six)[(5 : Int).toNat]? = some (.ref (V.x 5)) := rfl
  refine xcons (wpAny_Return_some (wpAny_Compare1 (xAttr (xSub (ldL S rfl q2 ?_)))))
  refine cInt (i := 5) S fun t6 s' S => sIdx (v := .ref (V.x 5)) (S.o IV.wl.specs) hsp (by decide) (by decide) (gOwn S e1 e2 (T.icOwn _ rfl) s1 fun s' S => ?_)
  refine eTup (ldC S 2 rfl ⟨_, _, _, S, (by show 1 ≤ 100000; decide), fun tt s' S => ?_⟩)
  refine SeqAt.eq_tupleAt (e := fun _ => true) (S.o s2) (S.at 4 rfl) (Nat.lt_of_le_of_lt (Nat.le_add_right _ 64) hu) (fun j h1 h2 => ?_) ?_
  · have : j = 0 := by
      have h2 : j < 1 := h2
      omega
    subst this
    exact SeqAt.EqAt.same _
  · exact hOk ρ5 _ (S.sub (List.sublist_append_of_sublist_right (.refl _)))
end
end Mine
end
section
open PySem
set_option Elab.async false
set_option linter.unusedVariables false
namespace Mine
open PySem (Sem Str Value Heap Obj Shared)
noncomputable def aKeys (as : List (Nat × List Nat)) : List Nat := as.map (·.1)
theorem any_keys {as : List (Nat × List Nat)} {k : Nat} : as.any (fun p => p.1 = k) = true ↔ k ∈ aKeys as := by
  unfold aKeys
  rw [List.any_eq_true, List.mem_map]
  exact ⟨fun ⟨p, h, e⟩ => ⟨p, h, by simpa using e⟩, fun ⟨p, h, e⟩ => ⟨p, h, by simpa using e⟩⟩
theorem aput_keys (as : List (Nat × List Nat)) (k : Nat) (v : List Nat) : aKeys (aput as k v) = if k ∈ aKeys as then aKeys as else aKeys as ++ [k] := by
  by_cases q : k ∈ aKeys as
  · rw [if_pos q]
    unfold aput
    rw [if_pos (any_keys.mpr q)]
    unfold aKeys
    rw [List.map_map]
    refine List.map_congr_left fun p hp => ?_
    show (if p.1 = k then (p.1, v) else p).1 = p.1
    split <;> rfl
  · rw [if_neg q]
    unfold aput
    rw [if_neg (fun h => q (any_keys.mp h))]
    unfold aKeys
    rw [List.map_append]; rfl
theorem aput_nd {as : List (Nat × List Nat)} {k : Nat} {v : List Nat} (h : (aKeys as).Nodup) : (aKeys (aput as k v)).Nodup := by
  rw [aput_keys]
  split
  · exact h
  · rename_i q
    exact List.nodup_append.mpr ⟨h, List.nodup_cons.mpr ⟨fun q => (nomatch q), List.nodup_nil⟩, fun x hx y hy e => by
      have hy : y = k := List.mem_singleton.mp hy
      rw [e, hy] at hx; exact q hx⟩
theorem aput_mem_keys {as : List (Nat × List Nat)} {k x : Nat} {v : List Nat} : x ∈ aKeys (aput as k v) ↔ x ∈ aKeys as ∨ x = k := by
  rw [aput_keys]
  split
  · rename_i q
    exact ⟨.inl, fun h => h.elim id fun e => e ▸ q⟩
  · rw [List.mem_append, List.mem_singleton]
theorem aget_aput (as : List (Nat × List Nat)) (n k : Nat) (v : List Nat) : aget (aput as n v) k = if k = n then v else aget as k := by
  by_cases q : as.any (fun p => p.1 = n) = true
  · unfold aput aget agetO
    rw [if_pos q, List.find?_map]
    have hc : ((fun p : Nat × List Nat => decide (p.1 = k)) ∘ fun p => if p.1 = n then (p.1, v) else p) = fun p => decide (p.1 = k) := by
      funext p
      show decide ((if p.1 = n then (p.1, v) else p).1 = k) = _
      split <;> rfl
    rw [hc]
    cases e : as.find? (fun p => decide (p.1 = k)) with
    | none =>
      by_cases h : k = n
      · subst h
        rw [List.find?_eq_none] at e
        obtain ⟨p, hp, hq⟩ := List.any_eq_true.mp q
        exact absurd hq (e p hp)
      · rw [if_neg h]; rfl
    | some p =>
      have hp : p.1 = k := by simpa using List.find?_some e
      show (if p.1 = n then (p.1, v) else p).2 = _
      rw [hp]
      split <;> rfl
  · unfold aput aget agetO
    rw [if_neg q, List.find?_append]
    cases e : as.find? (fun p => decide (p.1 = k)) with
    | none =>
      by_cases h : k = n
      · subst h
        rw [if_pos rfl]
        simp
      · rw [if_neg h]
        have : ¬ n = k := fun x => h x.symm
        simp [this]
    | some p =>
      have hp : p.1 = k := by simpa using List.find?_some e
      have h : ¬ k = n := fun x => q (List.any_eq_true.mpr ⟨p, List.mem_of_find?_eq_some e, by simpa using hp.trans x⟩)
      rw [if_neg h]; rfl
structure AFacts (as : List (Nat × List Nat)) (K : Nat → Prop) (P : Nat → Nat → Prop) : Prop where
  nd : (aKeys as).Nodup
  keys : ∀ x, x ∈ aKeys as ↔ K x
  get : ∀ h x, x ∈ aget as h ↔ P h x
theorem AFacts.iff {as : List (Nat × List Nat)} {K K' : Nat → Prop} {P P' : Nat → Nat → Prop} (F : AFacts as K P) (hk : ∀ x, K x ↔ K' x) (hp : ∀ h x, P h x ↔ P' h x) : AFacts as K' P' :=
  ⟨F.nd, fun x => (F.keys x).trans (hk x), fun h x => (F.get h x).trans (hp h x)⟩
theorem aTurn_facts {row : List Nat} {as : List (Nat × List Nat)} {k : Nat} {K : Nat → Prop} {P : Nat → Nat → Prop} (F : AFacts as K P) :
    AFacts (aTurn row as k) (fun x => K x ∨ row[k]? = some x) (fun h x => P h x ∨ (row[k]? = some h ∧ x ∈ row.take k)) := by
  unfold aTurn
  cases e : row[k]? with
  | none => exact F.iff (fun x => ⟨.inl, fun h => h.elim id fun q => nomatch q⟩) fun h x => ⟨.inl, fun h => h.elim id fun q => nomatch q.1⟩
  | some n =>
    refine ⟨aput_nd F.nd, fun x => ?_, fun h x => ?_⟩
    · rw [aput_mem_keys, F.keys]
      exact ⟨fun h => h.imp id fun e => by rw [e], fun h => h.imp id fun e => (Option.some.inj e).symm⟩
    · rw [aget_aput]
      by_cases q : h = n
      · subst q
        rw [if_pos rfl, List.mem_append, F.get]
        exact ⟨fun h => h.imp id fun e => ⟨rfl, e⟩, fun h => h.imp id fun e => e.2⟩
      · rw [if_neg q, F.get]
        exact ⟨.inl, fun h => h.elim id fun e => absurd (Option.some.inj e.1).symm q⟩
theorem aTurns_facts {row : List Nat} : ∀ (l : List Nat) {as : List (Nat × List Nat)} {K : Nat → Prop} {P : Nat → Nat → Prop}, AFacts as K P →
    AFacts (l.foldl (aTurn row) as) (fun x => K x ∨ ∃ k, k ∈ l ∧ row[k]? = some x) (fun h x => P h x ∨ ∃ k, k ∈ l ∧ row[k]? = some h ∧ x ∈ row.take k)
  | [], as, K, P, F => F.iff (fun x => ⟨.inl, fun h => h.elim id fun ⟨_, q, _⟩ => nomatch q⟩) fun h x => ⟨.inl, fun h => h.elim id fun ⟨_, q, _⟩ => nomatch q⟩
  | k :: l, as, K, P, F => by
    refine (aTurns_facts l (aTurn_facts (row := row) (k := k) F)).iff (fun x => ⟨?_, ?_⟩) fun h x => ⟨?_, ?_⟩
    · rintro ((h | h) | ⟨j, hj, e⟩)
      · exact .inl h
      · exact .inr ⟨k, .head _, h⟩
      · exact .inr ⟨j, .tail _ hj, e⟩
    · rintro (h | ⟨j, hj, e⟩)
      · exact .inl (.inl h)
      · rcases List.mem_cons.mp hj with rfl | hj
        · exact .inl (.inr e)
        · exact .inr ⟨j, hj, e⟩
    · rintro ((h | h) | ⟨j, hj, e⟩)
      · exact .inl h
      · exact .inr ⟨k, .head _, h⟩
      · exact .inr ⟨j, .tail _ hj, e⟩
    · rintro (h | ⟨j, hj, e⟩)
      · exact .inl (.inl h)
      · rcases List.mem_cons.mp hj with rfl | hj
        · exact .inl (.inr e)
        · exact .inr ⟨j, hj, e⟩
theorem aRow_facts {row : List Nat} {as : List (Nat × List Nat)} {K : Nat → Prop} {P : Nat → Nat → Prop} (F : AFacts as K P) :
    AFacts (aRow as row) (fun x => K x ∨ x ∈ row) (fun h x => P h x ∨ ∃ k : Nat, row[k]? = some h ∧ x ∈ row.take k) := by
  refine (aTurns_facts (row := row) (List.range row.length) F).iff (fun x => or_congr Iff.rfl ⟨fun ⟨k, _, e⟩ => List.mem_of_getElem? e, fun h => ?_⟩) fun h x => or_congr Iff.rfl ⟨fun ⟨k, _, e⟩ => ⟨k, e⟩, fun ⟨k, e⟩ => ⟨k, List.mem_range.mpr (List.getElem?_eq_some_iff.mp e.1).1, e⟩⟩
  obtain ⟨k, hk⟩ := List.mem_iff_getElem?.mp h
  exact ⟨k, List.mem_range.mpr (List.getElem?_eq_some_iff.mp hk).1, hk⟩
theorem aRows_facts : ∀ (rows : List (List Nat)) {as : List (Nat × List Nat)} {K : Nat → Prop} {P : Nat → Nat → Prop}, AFacts as K P →
    AFacts (rows.foldl aRow as) (fun x => K x ∨ ∃ r, r ∈ rows ∧ x ∈ r) (fun h x => P h x ∨ ∃ r, r ∈ rows ∧ ∃ k : Nat, r[k]? = some h ∧ x ∈ r.take k)
  | [], as, K, P, F => F.iff (fun x => ⟨.inl, fun h => h.elim id fun ⟨_, q, _⟩ => nomatch q⟩) fun h x => ⟨.inl, fun h => h.elim id fun ⟨_, q, _⟩ => nomatch q⟩
  | r :: rows, as, K, P, F => by
    refine (aRows_facts rows (aRow_facts (row := r) F)).iff (fun x => ⟨?_, ?_⟩) fun h x => ⟨?_, ?_⟩
    · rintro ((h | h) | ⟨j, hj, e⟩)
      · exact .inl h
      · exact .inr ⟨r, .head _, h⟩
      · exact .inr ⟨j, .tail _ hj, e⟩
    · rintro (h | ⟨j, hj, e⟩)
      · exact .inl (.inl h)
      · rcases List.mem_cons.mp hj with rfl | hj
        · exact .inl (.inr e)
        · exact .inr ⟨j, hj, e⟩
    · rintro ((h | h) | ⟨j, hj, e⟩)
      · exact .inl h
      · exact .inr ⟨r, .head _, h⟩
      · exact .inr ⟨j, .tail _ hj, e⟩
    · rintro (h | ⟨j, hj, e⟩)
      · exact .inl (.inl h)
      · rcases List.mem_cons.mp hj with rfl | hj
        · exact .inl (.inr e)
        · exact .inr ⟨j, hj, e⟩
theorem aAll_facts (rows : List (List Nat)) : AFacts (aAll rows) (fun x => ∃ r, r ∈ rows ∧ x ∈ r) (fun h x => ∃ r, r ∈ rows ∧ ∃ k : Nat, r[k]? = some h ∧ x ∈ r.take k) :=
  (aRows_facts rows (as := []) (K := fun _ => False) (P := fun _ _ => False) ⟨List.nodup_nil, fun x => ⟨fun h => (nomatch h), fun h => h.elim⟩, fun h x => ⟨fun h => (nomatch h), fun h => h.elim⟩⟩).iff
    (fun x => ⟨fun h => h.resolve_left id, .inr⟩) fun h x => ⟨fun h => h.resolve_left id, .inr⟩
end Mine
end
section
open PySem
set_option Elab.async false
set_option linter.unusedVariables false
namespace Mine
open PySem (Sem Str Value Heap Obj Shared)
theorem nd_len : ∀ {l m : List Nat}, l.Nodup → l ⊆ m → l.length ≤ m.length
  | [], _, _, _ => Nat.zero_le _
  | a :: l, m, hn, h => by
    obtain ⟨h1, h2⟩ := List.nodup_cons.mp hn
    have ha : a ∈ m := h (.head _)
    have := nd_len h2 (m := m.erase a) fun x hx => (List.mem_erase_of_ne fun e => h1 (by rw [← e]; exact hx)).mpr (h (.tail _ hx))
    rw [List.length_erase_of_mem ha] at this
    have := List.length_pos_of_mem ha
    rw [List.length_cons]
    omega
theorem nd_at {l : List Nat} (h : l.Nodup) {i j x : Nat} (a : l[i]? = some x) (b : l[j]? = some x) : i = j :=
  (List.getElem?_inj (List.getElem?_eq_some_iff.mp a).1 h).mp (a.trans b.symm)
noncomputable def nin (o : List Nat) (k : Nat) : Bool := !o.contains k
theorem nin_iff {o : List Nat} {k : Nat} : nin o k = true ↔ k ∉ o := by unfold nin; simp
noncomputable def remR (R : List (List Nat)) (o : List Nat) : List (List Nat) := (R.map fun r => r.filter (nin o)).filter fun r => !r.isEmpty
theorem mem_remR {R : List (List Nat)} {o r' : List Nat} : r' ∈ remR R o ↔ r' ≠ [] ∧ ∃ r, r ∈ R ∧ r' = r.filter (nin o) := by
  unfold remR
  rw [List.mem_filter, List.mem_map]
  refine ⟨fun ⟨⟨r, h, e⟩, q⟩ => ⟨fun z => (by rw [z] at q; cases q), r, h, e.symm⟩, fun ⟨q, r, h, e⟩ => ⟨⟨r, h, e.symm⟩, ?_⟩⟩
  cases r' with
  | nil => exact absurd rfl q
  | cons _ _ => rfl
theorem ne_remR (R : List (List Nat)) (o : List Nat) (j : Nat) : neRows (remR R o) (some j) = remR R (o ++ [j]) := by
  have hf : ∀ r : List Nat, (r.filter (nin o)).filter (fun k => some k != some j) = r.filter (nin (o ++ [j])) := fun r => by
    rw [List.filter_filter]
    refine List.filter_congr fun k _ => ?_
    rw [Bool.eq_iff_iff, Bool.and_eq_true, nin_iff, nin_iff, List.mem_append, List.mem_singleton]
    simp
    exact ⟨fun h => ⟨h.2, h.1⟩, fun h => ⟨h.2, h.1⟩⟩
  unfold neRows remR
  induction R with
  | nil => rfl
  | cons r R ih =>
    rw [List.map_cons, List.map_cons, List.filter_cons, List.filter_cons, ← hf r]
    by_cases q : (r.filter (nin o)).isEmpty = true
    · have q1 := List.isEmpty_iff.mp q
      rw [q1]
      exact ih
    · rw [if_pos (by simpa using q), List.map_cons, List.filter_cons, ih]
theorem ne_none (R : List (List Nat)) : neRows R none = remR R [] := by
  unfold neRows remR
  congr 1
theorem head_filter_map (R : List (List Nat)) (o : List Nat) : (lHeads R o).filterMap List.head? = (remR R o).filterMap List.head? := by
  unfold lHeads remR
  induction R with
  | nil => rfl
  | cons r R ih =>
    rw [List.map_cons, List.map_cons, List.filterMap_cons, List.filter_cons]
    have e : (r.filter fun n => !o.contains n) = r.filter (nin o) := rfl
    rw [e]
    cases q : r.filter (nin o) with
    | nil => exact ih
    | cons x t =>
      rw [if_pos (show (!(x :: t).isEmpty) = true from rfl), List.filterMap_cons]
      show x :: _ = x :: _
      rw [ih]
theorem nodup_take_ne {r : List Nat} (h : r.Nodup) {k x : Nat} (e : r[k]? = some x) : x ∉ r.take k := fun q => by
  obtain ⟨j, hj⟩ := List.mem_iff_getElem?.mp q
  rw [List.getElem?_take] at hj
  split at hj
  · rename_i hlt
    have := nd_at h hj e
    omega
  · cases hj
theorem can_iff {R : List (List Nat)} (hnd : ∀ r, r ∈ R → r.Nodup) {o : List Nat} {h : Nat} (ho : h ∉ o) :
    canB (remR R o) h = decide ((aget (aAll R) h).filter (fun x => !o.contains x) = []) := by
  rw [Bool.eq_iff_iff, decide_eq_true_iff, List.filter_eq_nil_iff]
  unfold canB
  rw [List.all_eq_true]
  constructor
  · intro H x hx hxo
    have hxo : x ∉ o := nin_iff.mp hxo
    obtain ⟨r, hr, k, hk, hxk⟩ := ((aAll_facts R).get h x).mp hx
    have hm : h ∈ r.filter (nin o) := List.mem_filter.mpr ⟨List.mem_of_getElem? hk, nin_iff.mpr ho⟩
    have := H _ (mem_remR.mpr ⟨fun q => (by rw [q] at hm; cases hm), r, hr, rfl⟩)
    rcases (Bool.or_eq_true _ _).mp this with q | q
    · have q : (r.filter (nin o)).head? = some h := by simpa using q
      rw [← List.take_append_drop k r, List.filter_append, List.head?_append] at q
      have hx' : x ∈ (r.take k).filter (nin o) := List.mem_filter.mpr ⟨hxk, nin_iff.mpr hxo⟩
      cases e : (r.take k).filter (nin o) with
      | nil => rw [e] at hx'; cases hx'
      | cons y t =>
        rw [e] at q
        have q : y = h := by simpa using q
        have : y ∈ (r.take k).filter (nin o) := by rw [e]; exact .head _
        rw [q] at this
        exact nodup_take_ne (hnd r hr) hk (List.mem_filter.mp this).1
    · have q : h ∉ r.filter (nin o) := by rw [Bool.not_eq_true', List.contains_eq_mem, decide_eq_false_iff_not] at q; exact q
      exact q hm
  · intro H r' hr'
    obtain ⟨_, r, hr, rfl⟩ := mem_remR.mp hr'
    by_cases hm : h ∈ r.filter (nin o)
    · refine (Bool.or_eq_true _ _).mpr (.inl ?_)
      obtain ⟨k, hk⟩ := List.mem_iff_getElem?.mp (List.mem_filter.mp hm).1
      have e0 : (r.take k).filter (nin o) = [] := List.filter_eq_nil_iff.mpr fun x hx => H x (((aAll_facts R).get h x).mpr ⟨r, hr, k, hk, hx⟩)
      have hd : r.drop k = h :: r.drop (k + 1) := by
        have := List.getElem?_eq_some_iff.mp hk
        rw [List.drop_eq_getElem_cons this.1, this.2]
      have : r.filter (nin o) = h :: (r.drop (k + 1)).filter (nin o) := by
        have e1 : r.filter (nin o) = (r.take k ++ r.drop k).filter (nin o) := by rw [List.take_append_drop]
        rw [e1, List.filter_append, e0, hd, List.filter_cons, if_pos (nin_iff.mpr ho)]; rfl
      rw [this]; simp
    · refine (Bool.or_eq_true _ _).mpr (.inr ?_)
      rw [Bool.not_eq_true', List.contains_eq_mem, decide_eq_false_iff_not]; exact hm
theorem find_head {p : Nat → Bool} : ∀ (l : List Nat), l.find? p = (l.filter p).head?
  | [] => rfl
  | x :: l => by
    rw [List.find?_cons, List.filter_cons]
    cases p x with
    | true => rfl
    | false => exact find_head l
theorem head_mem_rem {R : List (List Nat)} {o : List Nat} {h : Nat} (H : h ∈ (remR R o).filterMap List.head?) : h ∉ o ∧ ∃ r, r ∈ R ∧ h ∈ r := by
  obtain ⟨r', hr', e⟩ := List.mem_filterMap.mp H
  obtain ⟨_, r, hr, rfl⟩ := mem_remR.mp hr'
  have := List.mem_filter.mp (List.mem_of_mem_head? e)
  exact ⟨nin_iff.mp this.2, r, hr, this.1⟩
theorem findB_free {R : List (List Nat)} (hnd : ∀ r, r ∈ R → r.Nodup) (o : List Nat) : findB (remR R o) = (lFree (aAll R) R o).head? := by
  unfold findB lFree
  rw [find_head, head_filter_map]
  refine congrArg List.head? (List.filter_congr fun h hh => ?_)
  exact can_iff hnd (head_mem_rem hh).1
theorem rem_nil_iff {R : List (List Nat)} {o : List Nat} (hn : o.Nodup) (ho : ∀ k, k ∈ o → ∃ r, r ∈ R ∧ k ∈ r) : remR R o = [] ↔ ¬ o.length < (aAll R).length := by
  have F := aAll_facts R
  have hl : (aAll R).length = (aKeys (aAll R)).length := (List.length_map ..).symm
  rw [hl]
  have hsub : o ⊆ aKeys (aAll R) := fun k hk => (F.keys k).mpr (ho k hk)
  constructor
  · intro e
    have : aKeys (aAll R) ⊆ o := fun k hk => by
      obtain ⟨r, hr, hkr⟩ := (F.keys k).mp hk
      apply Classical.byContradiction
      intro q
      have hm : k ∈ r.filter (nin o) := List.mem_filter.mpr ⟨hkr, nin_iff.mpr q⟩
      have : r.filter (nin o) ∈ remR R o := mem_remR.mpr ⟨fun z => (by rw [z] at hm; cases hm), r, hr, rfl⟩
      rw [e] at this; cases this
    have := nd_len F.nd this
    omega
  · intro h
    apply List.eq_nil_iff_forall_not_mem.mpr
    intro r' hr'
    obtain ⟨hne, r, hr, rfl⟩ := mem_remR.mp hr'
    obtain ⟨k, hk⟩ := List.exists_mem_of_ne_nil _ hne
    obtain ⟨hk, hko⟩ := List.mem_filter.mp hk
    have hko := nin_iff.mp hko
    have hnd2 : (k :: o).Nodup := List.nodup_cons.mpr ⟨hko, hn⟩
    have hs2 : (k :: o) ⊆ aKeys (aAll R) := fun x hx => by
      rcases List.mem_cons.mp hx with rfl | hx
      · exact (F.keys _).mpr ⟨r, hr, hk⟩
      · exact hsub hx
    have := nd_len hnd2 hs2
    rw [List.length_cons] at this
    omega
theorem mgo_lGo {R : List (List Nat)} (hnd : ∀ r, r ∈ R → r.Nodup) (pre : List Nat) : ∀ (n m : Nat) (rows : List (List Nat)) (ign : Option Nat) (o : List Nat), neRows rows ign = remR R o → totL (remR R o) < m → (aAll R).length < n + o.length → o.Nodup → (∀ k, k ∈ o → ∃ r, r ∈ R ∧ k ∈ r) →
    mgo m rows ign (pre ++ o) = (lGo (aAll R) R n o).map (pre ++ ·)
  | n, 0, rows, ign, o, _, h, _, _, _ => absurd h (Nat.not_lt_zero _)
  | 0, m + 1, rows, ign, o, he, hm, hn, ho, hs => by
    exfalso
    have F := aAll_facts R
    have hl : (aAll R).length = (aKeys (aAll R)).length := (List.length_map ..).symm
    have := nd_len ho (fun k hk => (F.keys k).mpr (hs k hk) : o ⊆ aKeys (aAll R))
    omega
  | n + 1, m + 1, rows, ign, o, he, hm, hn, ho, hs => by
    rw [mgo, lGo, he]
    have hi := rem_nil_iff ho hs
    by_cases q : remR R o = []
    · rw [if_pos (by rw [q]; rfl), if_neg (hi.mp q)]; rfl
    · rw [if_neg (by simpa using q), if_pos (Classical.byContradiction fun z => q (hi.mpr z)), findB_free hnd]
      cases e : lFree (aAll R) R o with
      | nil => rfl
      | cons f t =>
        have hf : f ∈ lFree (aAll R) R o := by rw [e]; exact .head _
        have hf1 := (List.mem_filter.mp hf).1
        rw [head_filter_map] at hf1
        obtain ⟨h1, h2⟩ := head_mem_rem hf1
        have hfb : findB (remR R o) = some f := by rw [findB_free hnd, e]; rfl
        show mgo m (remR R o) (some f) (pre ++ o ++ [f]) = _
        rw [List.append_assoc]
        have hlt := totL_lt (findB_mem hfb)
        rw [ne_remR] at hlt
        refine mgo_lGo hnd pre n m _ _ _ (ne_remR R o f) (by omega) (by rw [List.length_append, List.length_singleton]; omega) ?_ fun k hk => ?_
        · exact List.nodup_append.mpr ⟨ho, List.nodup_cons.mpr ⟨fun q => (nomatch q), List.nodup_nil⟩, fun x hx y hy z => by
            have hy : y = f := List.mem_singleton.mp hy
            rw [z, hy] at hx; exact h1 hx⟩
        · rcases List.mem_append.mp hk with hk | hk
          · exact hs k hk
          · rw [List.mem_singleton.mp hk]; exact h2
theorem mergeC_eq {R : List (List Nat)} {i : Nat} (hnd : ∀ r, r ∈ R → r.Nodup) (hi : ∀ r, r ∈ R → i ∉ r) : mergeC ([[i]] ++ R) = (lMerge R).map (i :: ·) := by
  have e1 : neRows ([[i]] ++ R) none = [i] :: remR R [] := by rw [← ne_none]; rfl
  have hmem : ∀ r, r ∈ remR R [] → i ∉ r := fun r' hr' => by
    obtain ⟨_, r, hr, rfl⟩ := mem_remR.mp hr'
    exact fun q => hi r hr (List.mem_filter.mp q).1
  have e2 : findB ([i] :: remR R []) = some i := by
    unfold findB
    rw [List.filterMap_cons]
    show List.find? _ (i :: _) = _
    rw [List.find?_cons]
    have : canB ([i] :: remR R []) i = true := by
      unfold canB
      rw [List.all_cons, Bool.and_eq_true]
      refine ⟨by simp, List.all_eq_true.mpr fun r hr => ?_⟩
      have := hmem r hr
      simp [this]
    rw [this]
  have e3 : neRows ([i] :: remR R []) (some i) = remR R [] := by
    rw [neRows_cons]
    have : ([i].filter fun k => some k != some i).isEmpty = true := by simp
    rw [if_pos this]
    unfold neRows
    have : (remR R []).map (fun r => r.filter fun k => some k != some i) = remR R [] := by
      conv => rhs; rw [← List.map_id (remR R [])]
      refine List.map_congr_left fun r hr => List.filter_eq_self.mpr fun k hk => ?_
      have : k ≠ i := fun z => hmem r hr (z ▸ hk)
      simp [this]
    rw [this]
    exact List.filter_eq_self.mpr fun r hr => (List.mem_filter.mp hr).2
  have hl : totL (remR R []) < totL ([[i]] ++ R) := by
    rw [← ne_none]
    have := totL_ne none R
    show _ < totL ([i] :: R)
    rw [totL_cons, List.length_singleton]; omega
  unfold mergeC
  rw [mgo, e1, if_neg (by simp), e2]
  have := mgo_lGo hnd [i] ((aAll R).length + 1) (totL ([[i]] ++ R)) ([i] :: remR R []) (some i) [] e3 hl (by rw [List.length_nil]; (with_reducible exact Nat.lt_succ_self _)) List.nodup_nil (fun k hk => nomatch hk)
  exact this
theorem lMerge_one {b : Nat} {t : List Nat} (hnd : (b :: t).Nodup) : lMerge [b :: t, [b]] = some (b :: t) := by
  have F := aAll_facts [b :: t, [b]]
  have hl : (aAll [b :: t, [b]]).length = (b :: t).length := by
    have h1 : (aAll [b :: t, [b]]).length = (aKeys (aAll [b :: t, [b]])).length := (List.length_map ..).symm
    have s1 : aKeys (aAll [b :: t, [b]]) ⊆ b :: t := fun k hk => by
      obtain ⟨r, hr, hk⟩ := (F.keys k).mp hk
      rcases List.mem_cons.mp hr with rfl | hr
      · exact hk
      · rw [List.mem_singleton.mp hr] at hk
        rw [List.mem_singleton.mp hk]; exact .head _
    have s2 : (b :: t) ⊆ aKeys (aAll [b :: t, [b]]) := fun k hk => (F.keys k).mpr ⟨_, .head _, hk⟩
    have := nd_len F.nd s1
    have := nd_len hnd s2
    omega
  have key : ∀ (n : Nat) (o rest : List Nat), b :: t = o ++ rest → (aAll [b :: t, [b]]).length < n + o.length → lGo (aAll [b :: t, [b]]) [b :: t, [b]] n o = some (b :: t) := by
    intro n
    induction n with
    | zero => intro o rest e h; rw [hl, e, List.length_append] at h; omega
    | succ n ih =>
      intro o rest e h
      rw [lGo]
      cases rest with
      | nil =>
        rw [List.append_nil] at e
        rw [if_neg (by rw [hl, e]; omega), e]
      | cons x r =>
        rw [if_pos (by rw [hl, e, List.length_append, List.length_cons]; omega)]
        have hno : (o ++ x :: r).Nodup := e ▸ hnd
        have hxo : x ∉ o := fun q => (List.nodup_append.mp hno).2.2 x q x (.head _) rfl
        have hx : ((b :: t).filter fun n => !o.contains n) = x :: r := by
          rw [e, List.filter_append]
          have a1 : o.filter (fun n => !o.contains n) = [] := List.filter_eq_nil_iff.mpr fun k hk => by simpa using hk
          have a2 : (x :: r).filter (fun n => !o.contains n) = x :: r := List.filter_eq_self.mpr fun k hk => by
            have : k ∉ o := fun q => (List.nodup_append.mp hno).2.2 k q k hk rfl
            simpa using this
          rw [a1, a2]; rfl
        have hfree : ∃ t', lFree (aAll [b :: t, [b]]) [b :: t, [b]] o = x :: t' := by
          unfold lFree lHeads
          rw [List.map_cons, hx, List.filterMap_cons]
          show ∃ t', List.filter _ (x :: _) = x :: t'
          rw [List.filter_cons, if_pos]
          · exact ⟨_, rfl⟩
          · rw [decide_eq_true_iff, List.filter_eq_nil_iff]
            intro y hy
            obtain ⟨r0, hr0, k, hk, hyk⟩ := (F.get x y).mp hy
            rcases List.mem_cons.mp hr0 with rfl | hr0
            · have hk2 : (b :: t)[o.length]? = some x := by rw [e]; simp
              have hko : k = o.length := nd_at hnd hk hk2
              rw [hko, e, List.take_left] at hyk
              simpa using hyk
            · rw [List.mem_singleton.mp hr0] at hk hyk
              cases k with
              | zero => cases hyk
              | succ k => cases hk
        obtain ⟨t', ht'⟩ := hfree
        rw [ht']
        exact ih (o ++ [x]) r (by rw [e, List.append_assoc]; rfl) (by rw [List.length_append, List.length_singleton]; omega)
  exact key _ [] (b :: t) rfl (by rw [List.length_nil]; (with_reducible exact Nat.lt_succ_self _))
end Mine
end
section
open PySem
set_option Elab.async false
set_option linter.unusedVariables false
namespace Mine
open PySem (Sem Str Value Heap Obj Shared)
theorem rowsO_some {ov : Nat → Option (List Nat)} {f : Nat → List Nat} : ∀ {l : List Nat}, (∀ j, j ∈ l → ov j = some (f j)) → rowsO ov l = some (l.map f)
  | [], _ => rfl
  | j :: l, h => by rw [rowsO, h j (.head _), rowsO_some fun k hk => h k (.tail _ hk)]; rfl
theorem rowsO_noneE {ov : Nat → Option (List Nat)} : ∀ {l : List Nat}, (∃ j, j ∈ l ∧ ov j = none) → rowsO ov l = none
  | [], ⟨_, h, _⟩ => nomatch h
  | k :: l, ⟨j, hj, e⟩ => by
    rw [rowsO]
    cases q : ov k with
    | none => rfl
    | some x =>
      rcases List.mem_cons.mp hj with rfl | hj
      · rw [e] at q; cases q
      · rw [rowsO_noneE ⟨j, hj, e⟩]
noncomputable def Fit (W : Wo) (f : Nat → List Nat) (j : Nat) : Prop := (f j).Nodup ∧ (∀ k, k ∈ f j → W.live k ∧ W.rk k ≤ W.rk j) ∧ ∃ t, f j = j :: t
theorem c3v_step {b : Bool} {W : Wo} {ov : Nat → Option (List Nat)} {f : Nat → List Nat} {i : Nat} (O : W.Ok) (hi : W.live i) (hov : ∀ j, j ∈ W.bs i → ov j = some (f j)) (hf : ∀ j, j ∈ W.bs i → Fit W f j) :
    c3v b W ov i = match lMerge ((W.bs i).map f ++ [W.bs i]) with
      | some r => some (i :: r)
      | none => if b then none else some (i :: keepLast (W.walk i).tail) := by
  rw [c3v, rowsO_some hov]
  dsimp only
  have hlow : ∀ j, j ∈ W.bs i → i ∉ f j := fun j hj q => by
    have h1 := ((hf j hj).2.1 i q).2
    have h2 := (O.cl i hi j hj).2
    omega
  by_cases hl : (W.bs i).length = 1
  · rw [if_pos hl]
    obtain ⟨j, hj⟩ := List.length_eq_one_iff.mp hl
    rw [hj]
    have hjm : j ∈ W.bs i := by rw [hj]; exact .head _
    obtain ⟨h1, _, t, ht⟩ := hf j hjm
    show some (i :: f j) = match lMerge [f j, [j]] with | some r => some (i :: r) | none => _
    rw [ht, lMerge_one (ht ▸ h1)]
  · rw [if_neg hl, vOf, List.append_assoc, mergeC_eq (R := (W.bs i).map f ++ [W.bs i])]
    · cases lMerge ((W.bs i).map f ++ [W.bs i]) with
      | some r => rfl
      | none =>
        show (if b then none else some (keepLast (W.walk i))) = if b then none else _
        have hw := walk_eq O hi
        have hn : i ∉ (W.bs i).flatMap W.walk := fun q => by
          obtain ⟨j, hj, hw⟩ := List.mem_flatMap.mp q
          have c := O.cl i hi j hj
          have := (walk_rk O _ j c.1 (Nat.lt_succ_self _) i hw).2
          omega
        rw [hw, List.tail_cons, keepLast_cons, if_neg (fun q => hn (mem_keepLast.mp q))]
    · intro r hr
      rcases List.mem_append.mp hr with hr | hr
      · obtain ⟨j, hj, rfl⟩ := List.mem_map.mp hr
        exact (hf j hj).1
      · rw [List.mem_singleton.mp hr]; exact O.nd i hi
    · intro r hr
      rcases List.mem_append.mp hr with hr | hr
      · obtain ⟨j, hj, rfl⟩ := List.mem_map.mp hr
        exact hlow j hj
      · rw [List.mem_singleton.mp hr]; exact fun q => Nat.lt_irrefl _ (O.cl i hi i q).2
theorem bs5 {V : Vo} {g : Gs} (G : g.Ok V) (h5 : V.rk 5 = 0) (hl : V.live 5) : g.bs 5 = [] := by
  cases e : g.bs 5 with
  | nil => rfl
  | cons b t =>
    have := (G.cl 5 hl b (by rw [e]; exact .head _)).2
    omega
theorem lOrd_hd {settled : Bool} {W : Wo} (O : W.Ok) {j : Nat} (hj : W.live j) : ∃ t, lOrd settled W j = j :: t := by
  by_cases h : j = 5
  · subst h; exact ⟨[], lOrd_five ..⟩
  · exact ⟨_, lOrd_eq O hj h⟩
theorem lOrd_step {W : Wo} (O : W.Ok) {i : Nat} (hi : W.live i) (h5 : W.bs 5 = []) :
    lOrd false W i = i :: (lMerge ((W.bs i).map (lOrd false W) ++ [W.bs i])).getD (keepLast (W.walk i).tail) := by
  by_cases h : i = 5
  · subst h
    rw [lOrd_five, h5]; rfl
  · rw [lOrd_eq O hi h]; rfl
theorem tell_f {V : Vo} {g : Gs} (O : V.Ok) (G : g.Ok V) (h5 : V.rk 5 = 0) (hl5 : V.live 5) : ∀ (n i : Nat), V.live i → V.rk i < n → ovS false (V.wo g) (fun _ => none) i = some (lOrd false (V.wo g) i)
  | n + 1, i, hi, hn => by
    have W := G.wo O
    have ih : ∀ j, j ∈ (V.wo g).bs i → ovS false (V.wo g) (fun _ => none) j = some (lOrd false (V.wo g) j) := fun j hj => by
      have c := W.cl i hi j hj
      exact tell_f O G h5 hl5 n j c.1 (Nat.lt_of_lt_of_le c.2 (Nat.le_of_lt_succ hn))
    have nd := ovS_none_ok O G false
    rw [ovS_eq W hi rfl, c3v_step W hi ih fun j hj => ⟨(nd j (W.cl i hi j hj).1 _ (ih j hj)).1, (nd j (W.cl i hi j hj).1 _ (ih j hj)).2, lOrd_hd W (W.cl i hi j hj).1⟩, lOrd_step W hi (bs5 G h5 hl5)]
    cases lMerge (((V.wo g).bs i).map (lOrd false (V.wo g)) ++ [(V.wo g).bs i]) <;> rfl
theorem tell_t {V : Vo} {g : Gs} (O : V.Ok) (G : g.Ok V) (h5 : V.rk 5 = 0) (hl5 : V.live 5) : ∀ (n i : Nat), V.live i → V.rk i < n → ovS true (V.wo g) (fun _ => none) i = if lQ false (V.wo g) i then some (lOrd false (V.wo g) i) else none
  | n + 1, i, hi, hn => by
    have W := G.wo O
    have hb5 := bs5 G h5 hl5
    have ih : ∀ j, j ∈ (V.wo g).bs i → ovS true (V.wo g) (fun _ => none) j = if lQ false (V.wo g) j then some (lOrd false (V.wo g) j) else none := fun j hj => by
      have c := W.cl i hi j hj
      exact tell_t O G h5 hl5 n j c.1 (Nat.lt_of_lt_of_le c.2 (Nat.le_of_lt_succ hn))
    have nd := ovS_none_ok O G false
    have hf := fun j (hj : (V.wo g).live j) => tell_f O G h5 hl5 (V.rk j + 1) j hj (Nat.lt_succ_self _)
    have hq : lQ false (V.wo g) i = ((lMerge (((V.wo g).bs i).map (lOrd false (V.wo g)) ++ [(V.wo g).bs i])).isSome && ((V.wo g).bs i).all (lQ false (V.wo g))) := by
      by_cases h : i = 5
      · subst h
        have e : (V.wo g).bs 5 = [] := hb5
        rw [lQ_five, e]; rfl
      · rw [lQ_eq W hi h]; rfl
    rw [ovS_eq W hi rfl, hq]
    by_cases ha : ((V.wo g).bs i).all (lQ false (V.wo g)) = true
    · rw [ha, Bool.and_true]
      have ih2 : ∀ j, j ∈ (V.wo g).bs i → ovS true (V.wo g) (fun _ => none) j = some (lOrd false (V.wo g) j) := fun j hj => by
        rw [ih j hj, List.all_eq_true.mp ha j hj]; rfl
      rw [c3v_step W hi ih2 fun j hj => ⟨(nd j (W.cl i hi j hj).1 _ (hf j (W.cl i hi j hj).1)).1, (nd j (W.cl i hi j hj).1 _ (hf j (W.cl i hi j hj).1)).2, lOrd_hd W (W.cl i hi j hj).1⟩, lOrd_step W hi hb5]
      cases lMerge (((V.wo g).bs i).map (lOrd false (V.wo g)) ++ [(V.wo g).bs i]) <;> rfl
    · have hx : ∃ j, j ∈ (V.wo g).bs i ∧ ovS true (V.wo g) (fun _ => none) j = none := by
        have : ∃ j, j ∈ (V.wo g).bs i ∧ ¬ lQ false (V.wo g) j = true := by
          apply Classical.byContradiction
          intro q
          exact ha (List.all_eq_true.mpr fun j hj => Classical.byContradiction fun z => q ⟨j, hj, z⟩)
        obtain ⟨j, hj, z⟩ := this
        exact ⟨j, hj, by rw [ih j hj, if_neg z]⟩
      rw [c3v, rowsO_noneE hx]
      have : ((V.wo g).bs i).all (lQ false (V.wo g)) = false := by simpa using ha
      rw [this, Bool.and_false]; rfl
theorem filter5 {X : List Nat} (hn : X.Nodup) (h : X.getLast? = some 5) : X.filter (fun k => decide (k ≠ 5)) ++ [5] = X := by
  obtain ⟨Y, rfl⟩ : ∃ Y, X = Y ++ [5] := List.getLast?_eq_some_iff.mp h
  rw [List.filter_append]
  have h1 : Y.filter (fun k => decide (k ≠ 5)) = Y := List.filter_eq_self.mpr fun k hk => by
    have := (List.nodup_append.mp hn).2.2 k hk 5 (.head _)
    simpa using this
  rw [h1]; simp
theorem tell_so {V : Vo} {g : Gs} (O : V.Ok) (G : g.Ok V) (hs : Settled V g) (h5 : V.rk 5 = 0) (hl5 : V.live 5) (hr : V.root = rootF) : ∀ (n i : Nat), V.live i → V.rk i < n → g.so i = lOrd true (V.wo g) i
  | n + 1, i, hi, hn => by
    have W := G.wo O
    have ih : ∀ j, j ∈ (V.wo g).bs i → g.so j = lOrd true (V.wo g) j := fun j hj => by
      have c := W.cl i hi j hj
      exact tell_so O G hs h5 hl5 hr n j c.1 (Nat.lt_of_lt_of_le c.2 (Nat.le_of_lt_succ hn))
    have hb5 := bs5 G h5 hl5
    have hc := c3v_step (b := false) (f := g.so) W hi (ov := fun j => some (g.so j)) (fun j _ => rfl) fun j hj => by
      have c := W.cl i hi j hj
      refine ⟨(G.so j c.1).1, (G.so j c.1).2, ?_⟩
      rw [ih j hj]; exact lOrd_hd W c.1
    have hnd : ∀ xs, c3S V g i = some xs → xs.Nodup := fun xs h => (c3v_nd W hi (fun j hj ys hy => by
      cases hy
      exact G.so j (W.cl i hi j hj).1) h).1
    have hmap : ((V.wo g).bs i).map g.so = ((V.wo g).bs i).map (lOrd true (V.wo g)) := List.map_congr_left ih
    rw [hmap] at hc
    have hc2 : c3S V g i = some (i :: (lMerge (((V.wo g).bs i).map (lOrd true (V.wo g)) ++ [(V.wo g).bs i])).getD (keepLast ((V.wo g).walk i).tail)) := by
      refine hc.trans ?_
      cases lMerge (((V.wo g).bs i).map (lOrd true (V.wo g)) ++ [(V.wo g).bs i]) <;> rfl
    have hndx := hnd _ hc2
    rw [hs i hi, ordS, hc2, Option.getD_some]
    unfold settle
    rw [hr]
    by_cases h : i = 5
    · subst h
      have e : (V.wo g).bs 5 = [] := hb5
      rw [lOrd_five, e]; rfl
    · have hi6 := O.six i hi
      have : rootF i = some 5 := by unfold rootF; rw [if_pos (by omega)]
      rw [this, lOrd_eq W hi h]
      unfold oTail
      rw [if_pos rfl]
      dsimp only
      generalize (lMerge (((V.wo g).bs i).map (lOrd true (V.wo g)) ++ [(V.wo g).bs i])).getD (keepLast ((V.wo g).walk i).tail) = X at hndx ⊢
      by_cases hlast : i :: X = [] ∨ (i :: X).getLast? = some 5
      · rw [if_pos hlast]
        have hlast := hlast.resolve_left (fun q => nomatch q)
        cases X with
        | nil =>
          have : i = 5 := Option.some.inj hlast
          exact absurd this h
        | cons x t =>
          rw [List.getLast?_cons_cons] at hlast
          rw [filter5 (List.nodup_cons.mp hndx).2 hlast]
      · rw [if_neg hlast, List.filter_cons, if_pos (by simpa using h)]; rfl
theorem plain_ok {m : Nat} {V : Vo} {g0 : Gs} (M : MadeK m V g0 5) : Plain V := by
  have h5 : V.rk 5 = 0 := by rw [M.rk]; unfold rkF; rw [if_pos rfl]
  have hl5 : V.live 5 := (M.live 5).mpr (.inl rfl)
  exact ⟨fun g G => ⟨fun i hi => tell_f M.ok G h5 hl5 _ i hi (Nat.lt_succ_self _), fun i hi => tell_t M.ok G h5 hl5 _ i hi (Nat.lt_succ_self _)⟩, fun g G hs i hi => tell_so M.ok G hs h5 hl5 M.root _ i hi (Nat.lt_succ_self _)⟩
end Mine
end
section
open PySem PySem.W PyProof.Rows PySem.Calls
set_option Elab.async false
set_option maxRecDepth 100000
set_option linter.unusedVariables false
namespace Mine
open PySem (Sem Str Value Heap Obj Shared)
theorem lookup_filter (f : Addr → Bool) (a : Addr) : ∀ l : Frag, (l.filter fun p => f p.1).lookup a = if f a then l.lookup a else none
  | [] => by cases f a <;> rfl
  | (b, o) :: l => by
    have ih := lookup_filter f a l
    by_cases h : a = b
    · subst h
      rw [List.filter_cons]
      dsimp only
      cases q : f a with
      | true => rw [if_pos rfl, List.lookup_cons_self, List.lookup_cons_self, if_pos rfl]
      | false => rw [if_neg Bool.false_ne_true, ih, q]; rfl
    · have hb : (a == b) = false := beq_eq_false_iff_ne.mpr h
      rw [List.filter_cons]
      dsimp only
      split
      · rw [List.lookup_cons, hb, ih, List.lookup_cons, hb]
      · rw [ih, List.lookup_cons, hb]
theorem lookup_mem {β : Type} {x : Str} {v : β} : ∀ {l : List (Str × β)}, l.lookup x = some v → (x, v) ∈ l
  | (y, w) :: l, h => by
    rw [List.lookup_cons] at h
    split at h
    · rename_i e
      cases h
      rw [eq_of_beq e]; exact .head _
    · exact .tail _ (lookup_mem h)
noncomputable def ownB (K : Frag) (Cl : Addr) (x : Str) : Bool := plainGet K Cl x && hasDictIn K Cl && (match findIn K (.ref Cl) x with | some a => noGet K a | none => false)
theorem ownA_of {K : Frag} {Cl : Addr} {x : Str} (h : ownB K Cl x = true) : OwnA K Cl x := by
  unfold ownB at h
  rw [Bool.and_eq_true, Bool.and_eq_true] at h
  refine ⟨h.1.1, h.1.2, ?_⟩
  cases e : findIn K (.ref Cl) x with
  | none => rw [e] at h; cases h.2
  | some a => rw [e] at h; exact ⟨a, rfl, h.2⟩
noncomputable def setB (K : Frag) (Cl : Addr) (x : Str) : Bool := findIn K (.ref Cl) "__setattr__" == some (some (.builtin "object.__setattr__")) && plainOver K Cl && takerIn K Cl x == some none && hasDictIn K Cl
theorem setA_of {K : Frag} {Cl : Addr} {x : Str} (h : setB K Cl x = true) : SetA K Cl x := by
  unfold setB at h
  rw [Bool.and_eq_true, Bool.and_eq_true, Bool.and_eq_true] at h
  exact ⟨eq_of_beq h.1.1.1, h.1.1.2, eq_of_beq h.1.2, h.2⟩
noncomputable def clsB (K : Frag) (Cl : Addr) (x : Str) (v : Value) : Bool := plainGet K Cl x && hasDictIn K Cl && findIn K (.ref Cl) x == some (some v) && specialIn K v "__get__" == some none && handedIn v && !copiedNames.contains x
theorem clsA_of {K : Frag} {Cl : Addr} {x : Str} {v : Value} (h : clsB K Cl x v = true) : ClsA K Cl x v := by
  unfold clsB at h
  simp only [Bool.and_eq_true, Bool.not_eq_true'] at h
  exact ⟨h.1.1.1.1.1, h.1.1.1.1.2, eq_of_beq h.1.1.1.2, eq_of_beq h.1.1.2, h.1.2, h.2⟩
noncomputable def methB (K : Frag) (Cl : Addr) (x : Str) (f : Addr) : Bool := plainGet K Cl x && findIn K (.ref Cl) x == some (some (.ref f)) && isFn K (.ref f)
theorem methA_of {K : Frag} {Cl : Addr} {x : Str} {f : Addr} (h : methB K Cl x f = true) : MethA K Cl x f := by
  unfold methB at h
  rw [Bool.and_eq_true, Bool.and_eq_true] at h
  exact ⟨h.1.1, eq_of_beq h.1.2, h.2⟩
noncomputable def propB (K : Frag) (Cl : Addr) (x : Str) (p f : Addr) : Bool := plainGet K Cl x && hasDictIn K Cl && findIn K (.ref Cl) x == some (some (.ref p)) && specialIn K (.ref p) "__get__" == some (some (.builtin "property.__get__")) && takesIn K (.ref p) == some true &&
  (recIn K p "property").any fun l => l.head? == some (.ref f)
theorem propA_of {K : Frag} {Cl : Addr} {x : Str} (p : Addr) {f : Addr} (h : propB K Cl x p f = true) : PropA K Cl x f := by
  unfold propB at h
  simp only [Bool.and_eq_true] at h
  obtain ⟨⟨⟨⟨⟨h1, h2⟩, h3⟩, h4⟩, h5⟩, h6⟩ := h
  refine ⟨h1, h2, p, ?_⟩
  cases e : recIn K p "property" with
  | none => rw [e] at h6; cases h6
  | some l =>
    rw [e] at h6
    cases l with
    | nil => cases h6
    | cons a r =>
      have : a = .ref f := by
        have h6 : (some a == some (Value.ref f)) = true := h6
        exact Option.some.inj (eq_of_beq h6)
      subst this
      exact ⟨r, eq_of_beq h3, eq_of_beq h4, eq_of_beq h5, rfl⟩
noncomputable def statB (K : Frag) (Cl : Addr) (x : Str) (p f : Addr) : Bool := plainGet K Cl x && !copiedNames.contains x && hasDictIn K Cl && findIn K (.ref Cl) x == some (some (.ref p)) && specialIn K (.ref p) "__get__" == some (some (.builtin "staticmethod.__get__")) && takesIn K (.ref p) == some false &&
  ((recIn K p "staticmethod").any fun l => l.head? == some (.ref f)) && (typeIn K (.ref p)).any (fun t => t != .type "function" && t != .type "method_descriptor" && t != .type "wrapper_descriptor")
theorem statA_of {K : Frag} {Cl : Addr} {x : Str} (p : Addr) {f : Addr} (h : statB K Cl x p f = true) : StatA K Cl x f := by
  unfold statB at h
  simp only [Bool.and_eq_true, Bool.not_eq_true'] at h
  obtain ⟨⟨⟨⟨⟨⟨⟨h1, h2⟩, h2b⟩, h3⟩, h4⟩, h5⟩, h6⟩, h7⟩ := h
  refine ⟨h1, h2, h2b, p, ?_⟩
  cases e : recIn K p "staticmethod" with
  | none => rw [e] at h6; cases h6
  | some l =>
    rw [e] at h6
    cases l with
    | nil => cases h6
    | cons a r =>
      have : a = .ref f := by
        have h6 : (some a == some (Value.ref f)) = true := h6
        exact Option.some.inj (eq_of_beq h6)
      subst this
      exact ⟨r, eq_of_beq h3, eq_of_beq h4, eq_of_beq h5, rfl, by simpa using h7⟩
theorem all_contains {l : List Str} {f : Str → Bool} (h : l.all f = true) {x : Str} (hx : l.contains x = true) : f x = true := List.all_eq_true.mp h x (by simpa using hx)
noncomputable def isStrK : Value → Bool
  | .str _ _ => true
  | _ => false
noncomputable def nsAll (es : List DictEntry) : Bool := es.all fun e => isStrK e.key
theorem strKeys_of {es : Array DictEntry} (h : nsAll es.toList = true) : StrKeys es := fun e he => by
  have := List.all_eq_true.mp h e (by simpa using he)
  cases q : e.key with
  | str n t => exact ⟨n, t, rfl⟩
  | _ => rw [q] at this; cases this
end Mine
end
section
open PySem PySem.W PyProof.Rows PySem.Calls
set_option Elab.async false
set_option maxRecDepth 100000
set_option linter.unusedVariables false
set_option maxHeartbeats 0
namespace Mine
open PySem (Sem Str Value Heap Obj Shared)
noncomputable def ad : Adr := { merg := 28, flat := 35, leg := 42, inc := 59, incInit := 56, stat := 86, statInit := 76, statMro := 83, use := 100, c3 := 204, sc3 := 232, resolver := 117, c3Init := 125, c3Same := 132, scSame := 222, hadInc := 139, legRo := 147, canChoose := 155, nonEmpty := 163, chooseNext := 173, findNext := 180, c3Guess := 187, scGuess := 229, mergeF := 194, mroF := 201, ro := 242, roDef := 235, sp := 336, spInit := 279, depends := 286, subscribe := 294, unsubscribe := 301, setBases := 308, calcSro := 313, changed := 318, ic := 364, icInit := 354, icDef := 347, spDef := 272, lMerge := 371, lWalk := 378, lOrders := 383, lNumbers := 388, lPlain := 395, lLooks := 402, lTurn := 407, law := 412 }
noncomputable def fB (K : Frag) (f : Addr) (qual nm : Str) (dV : Value) : Bool := match K.lookup f with
  | some ⟨_, _, .func d, _⟩ => d.name == nm && d.qualname == qual && d.globals == mainGlobals && d.closure.isEmpty && d.defaults == dV && d.builtins == builtinsNs && codeIn K d.code qual
  | _ => false
noncomputable def fV (K : Frag) (f : Addr) : Option (Arguments × FuncBody × Scope) := match K.lookup f with
  | some ⟨_, _, .func d, _⟩ => some (d.params, d.body, d.scope)
  | _ => none
theorem fnAt_b {K : Frag} {f : Addr} {qual : Str} {F : FnT} {dV : Value} (h : fB K f qual F.name dV = true) (v : fV K f = some (F.params, .stmts F.body, F.scope)) : FnAt K f qual F dV := by
  unfold fB at h
  unfold fV at v
  split at h
  · rename_i c di d sl e
    rw [e] at v
    obtain ⟨nm, q, pa, bo, sc, gl, cl, df, kd, dc, pm, an, cd, ct, bu⟩ := d
    simp only [Bool.and_eq_true, beq_iff_eq, List.isEmpty_iff] at h
    simp only [Option.some.injEq, Prod.mk.injEq] at v
    obtain ⟨⟨⟨⟨⟨⟨h1, h2⟩, h3⟩, h4⟩, h5⟩, h6⟩, h7⟩ := h
    obtain ⟨v1, v2, v3⟩ := v
    subst h1 h2 h3 h4 h5 h6 v1 v2 v3
    exact ⟨_, _, _, _, _, _, _, e, rfl, h7⟩
  · cases h
noncomputable def cB (K : Frag) (f : Addr) (c : Value) : Bool := match K.lookup f with
  | some ⟨_, _, .func d, _⟩ => d.code == c
  | _ => false
theorem fnAtC_b {K : Frag} {f : Addr} {qual : Str} {F : FnT} {dV cdv : Value} (h : FnAt K f qual F dV) (v : cB K f cdv = true) : FnAtC K f qual F dV cdv := by
  obtain ⟨⟨c, di, d, sl⟩, kV, doc, pm, an, cd, ct, e, q, h7⟩ := h
  dsimp only at q
  subst q
  unfold cB at v
  rw [e] at v
  have v : cd = cdv := eq_of_beq v
  subst v
  exact ⟨_, _, _, _, _, _, e, rfl, h7⟩
noncomputable def excB (K : Frag) (Cl : Addr) (bm : List Value) (newId : String) (no : List Str) : Bool := match K.lookup Cl with
  | some ⟨c, _, .cls d, sl⟩ => c == .type "type" && d.mro == .ref Cl :: bm && d.hasDict && !d.hasDel && (sl.toList.length == 6 && sl.toList[4]? == some (some (.builtin newId))) &&
    (match K.lookup d.ns with
      | some ⟨_, _, .dict es _, _⟩ => nsAll es.toList && no.all (fun x => (es.toList.find? (·.key.isStr x)).isNone)
      | _ => false)
  | _ => false
theorem slots6 {l : List (Option Value)} {y : Option Value} (h : l.length = 6) (h4 : l[4]? = some y) : ∃ a b c d f, l = [a, b, c, d, y, f] := by
  obtain ⟨a, l, rfl⟩ := List.exists_cons_of_length_eq_add_one h
  obtain ⟨b, l, rfl⟩ := List.exists_cons_of_length_eq_add_one (Nat.succ.inj h)
  obtain ⟨c, l, rfl⟩ := List.exists_cons_of_length_eq_add_one (Nat.succ.inj (Nat.succ.inj h))
  obtain ⟨d, l, rfl⟩ := List.exists_cons_of_length_eq_add_one (Nat.succ.inj (Nat.succ.inj (Nat.succ.inj h)))
  obtain ⟨e, l, rfl⟩ := List.exists_cons_of_length_eq_add_one (Nat.succ.inj (Nat.succ.inj (Nat.succ.inj (Nat.succ.inj h))))
  obtain ⟨f, l, rfl⟩ := List.exists_cons_of_length_eq_add_one (Nat.succ.inj (Nat.succ.inj (Nat.succ.inj (Nat.succ.inj (Nat.succ.inj h)))))
  obtain rfl := List.length_eq_zero_iff.mp (Nat.succ.inj (Nat.succ.inj (Nat.succ.inj (Nat.succ.inj (Nat.succ.inj (Nat.succ.inj h))))))
  have q : e = y := Option.some.inj h4
  subst q
  exact ⟨a, b, c, d, f, rfl⟩
theorem exc_b {C : Cx} {Cl : Addr} {newId : String} {bm : List Value} {no : List Str} (X : C.K.In C.hb) (h : excB C.K Cl bm newId no = true) : ExcCls C Cl newId bm no := by
  unfold excB at h
  split at h
  · rename_i c di d sl e
    obtain ⟨nm, bs, mro, ns, q, hd, sn, sub, ab, col, hdel⟩ := d
    obtain ⟨sl⟩ := sl
    simp only [Bool.and_eq_true, beq_iff_eq, Bool.not_eq_true'] at h
    obtain ⟨⟨⟨⟨⟨h1, h2⟩, h3⟩, h4⟩, h5⟩, h6⟩ := h
    obtain ⟨k0, k1, k2, k3, k5, h7⟩ := slots6 h5.1 h5.2
    subst h1 h2 h3 h4 h7
    split at h6
    · rename_i c' di' es ep sl' e'
      simp only [Bool.and_eq_true] at h6
      refine ⟨_, _, _, _, _, _, _, _, _, _, _, _, _, _, nsFind es, e, ⟨_, _, _, X _ _ e', rfl, strKeys_of h6.1, fun _ => rfl⟩, fun x hx => ?_⟩
      have := List.all_eq_true.mp h6.2 x hx
      unfold nsFind findBy
      rw [← Array.find?_toList]
      cases e : es.toList.find? (·.key.isStr x) with
      | none => rfl
      | some y => rw [e] at this; cases this
    · cases h6
  · cases h
noncomputable def seqB (K : Frag) (a : Addr) (vs : List Value) : Bool := match K.lookup a with
  | some ⟨_, _, .seq xs _, _⟩ => xs.toList == vs
  | _ => false
theorem seq_b {K : Frag} {a : Addr} {vs : List Value} (h : seqB K a vs = true) : ∃ o n, K.lookup a = some o ∧ o.data = .seq vs.toArray n := by
  unfold seqB at h
  split at h
  · rename_i c d xs n sl e
    have h := eq_of_beq h
    subst h
    exact ⟨_, n, e, by simp⟩
  · cases h
noncomputable def isIntV : Value → Bool
  | .int _ _ => true
  | _ => false
noncomputable def isBoolV : Value → Bool
  | .bool _ => true
  | _ => false
noncomputable def tabB (K : Frag) (c p : Addr) : Bool := (match K.lookup c with
  | some ⟨t, _, .fields vs, _⟩ => t == .type "code" && vs.toList[11]? == some (.ref p) && (vs.toList[18]?).any isStrK && (vs.toList[7]?).any isIntV && (vs.toList[9]?).any isBoolV && (vs.toList[10]?).any isIntV
  | _ => false) && (match K.lookup p with
  | some ⟨t, d, .fields vs, sl⟩ => t == .none && d.isNone && vs.toList.isEmpty && sl.toList.isEmpty
  | _ => false)
noncomputable def fnTab : List (Addr × Str × FnT × Value) :=
  [((28 : Addr), ("_legacy_mergeOrderings" : Str), (topF 2), (Value.none : Value)),
   ((35 : Addr), ("_legacy_flatten" : Str), (topF 3), (Value.none : Value)),
   ((42 : Addr), ("_legacy_ro" : Str), (topF 4), (Value.none : Value)),
   ((76 : Addr), ("_StaticMRO.__init__" : Str), (clsF 6 1), (Value.none : Value)),
   ((83 : Addr), ("_StaticMRO.mro" : Str), (clsF 6 2), (Value.none : Value)),
   ((125 : Addr), ("C3.__init__" : Str), (clsF 8 4), (Value.none : Value)),
   ((132 : Addr), ("C3._same_kind" : Str), (clsF 8 5), (Value.none : Value)),
   ((139 : Addr), ("C3.had_inconsistency" : Str), (clsF 8 6), (Value.none : Value)),
   ((147 : Addr), ("C3.legacy_ro" : Str), (clsF 8 7), (Value.none : Value)),
   ((155 : Addr), ("C3._can_choose_base" : Str), (clsF 8 8), (Value.none : Value)),
   ((163 : Addr), ("C3._nonempty_bases_ignoring" : Str), (clsF 8 9), (Value.none : Value)),
   ((173 : Addr), ("C3._choose_next_base" : Str), (clsF 8 10), (Value.none : Value)),
   ((180 : Addr), ("C3._find_next_C3_base" : Str), (clsF 8 11), (Value.none : Value)),
   ((187 : Addr), ("C3._guess_next_base" : Str), (clsF 8 12), (Value.none : Value)),
   ((194 : Addr), ("C3._merge" : Str), (clsF 8 13), (Value.none : Value)),
   ((201 : Addr), ("C3.mro" : Str), (clsF 8 14), (Value.none : Value)),
   ((222 : Addr), ("_StrictC3._same_kind" : Str), (clsF 9 0), (Value.none : Value)),
   ((229 : Addr), ("_StrictC3._guess_next_base" : Str), (clsF 9 1), (Value.none : Value)),
   ((56 : Addr), ("InconsistentResolutionOrderError.__init__" : Str), (clsF 5 0), (Value.none : Value)),
   ((117 : Addr), ("C3.resolver" : Str), (clsF 8 0), (Value.none : Value)),
   ((371 : Addr), ("_law_merge" : Str), (topF 16), (Value.none : Value)),
   ((378 : Addr), ("_law_walk" : Str), (topF 17), (Value.none : Value)),
   ((383 : Addr), ("_law_orders" : Str), (topF 18), (Value.none : Value)),
   ((388 : Addr), ("_law_numbers" : Str), (topF 19), (Value.none : Value)),
   ((395 : Addr), ("_law_plain" : Str), (topF 20), (Value.none : Value)),
   ((402 : Addr), ("_law_looks" : Str), (topF 21), (Value.none : Value)),
   ((407 : Addr), ("_law_turn" : Str), (topF 22), (Value.none : Value)),
   ((412 : Addr), ("law" : Str), (topF 23), (Value.none : Value)),
   ((286 : Addr), ("Specification.dependents" : Str), (clsF 13 1), (Value.none : Value)),
   ((294 : Addr), ("Specification.subscribe" : Str), (clsF 13 2), (Value.none : Value)),
   ((301 : Addr), ("Specification.unsubscribe" : Str), (clsF 13 3), (Value.none : Value)),
   ((308 : Addr), ("Specification.setBases" : Str), (clsF 13 4), (Value.none : Value)),
   ((313 : Addr), ("Specification._calculate_sro" : Str), (clsF 13 5), (Value.none : Value)),
   ((318 : Addr), ("Specification.changed" : Str), (clsF 13 6), (Value.none : Value)),
   ((242 : Addr), ("ro" : Str), (topF 10), (Value.ref 235 : Value)),
   ((279 : Addr), ("Specification.__init__" : Str), (clsF 13 0), (Value.ref 272 : Value)),
   ((125 : Addr), ("C3.__init__" : Str), (clsF 8 4), (Value.none : Value)),
   ((354 : Addr), ("InterfaceClass.__init__" : Str), (clsF 14 0), (Value.ref 347 : Value))]
noncomputable def kNames : List Str := ["_mro", "leaf", "memo", "base_tree", "bases_had_inconsistency", "_own_legacy", "direct_inconsistency"]
noncomputable def t_glob (K : Frag) : Bool := (ad.globs.all fun p => nsIn K mainGlobals p.1 == some (some p.2))
noncomputable def t_nog (K : Frag) : Bool := (noGlobs.all fun x => nsIn K mainGlobals x == some none)
noncomputable def t_stat (K : Frag) : Bool := ((["_mro", "leaf"] : List Str).all fun x => ownB K 86 x && setB K 86 x)
noncomputable def t_statHad (K : Frag) : Bool := clsB K 86 "had_inconsistency" .none
noncomputable def t_statM (K : Frag) : Bool := methB K 86 "mro" 83
noncomputable def t_k0 (K : Frag) : Bool := (kNames.all fun x => ownB K 204 x && setB K 204 x)
noncomputable def t_k1 (K : Frag) : Bool := (kNames.all fun x => ownB K 232 x && setB K 232 x)
noncomputable def t_n0 (K : Frag) : Bool := ((["_mro", "_own_legacy"] : List Str).all fun x => clsB K 204 x .none)
noncomputable def t_n1 (K : Frag) : Bool := ((["_mro", "_own_legacy"] : List Str).all fun x => clsB K 232 x .none)
noncomputable def t_f0 (K : Frag) : Bool := clsB K 204 "direct_inconsistency" (.bool false)
noncomputable def t_f1 (K : Frag) : Bool := clsB K 232 "direct_inconsistency" (.bool false)
noncomputable def t_m0 (K : Frag) : Bool := ((ad.kindMeths false).all fun p => methB K 204 p.1 p.2)
noncomputable def t_m1 (K : Frag) : Bool := ((ad.kindMeths true).all fun p => methB K 232 p.1 p.2)
noncomputable def t_h0 (K : Frag) : Bool := propB K 204 "had_inconsistency" 140 139
noncomputable def t_h1 (K : Frag) : Bool := propB K 232 "had_inconsistency" 140 139
noncomputable def t_l0 (K : Frag) : Bool := propB K 204 "legacy_ro" 148 147
noncomputable def t_l1 (K : Frag) : Bool := propB K 232 "legacy_ro" 148 147
noncomputable def t_c0 (K : Frag) : Bool := statB K 204 "_can_choose_base" 157 155
noncomputable def t_c1 (K : Frag) : Bool := statB K 232 "_can_choose_base" 157 155
noncomputable def t_e0 (K : Frag) : Bool := statB K 204 "_nonempty_bases_ignoring" 165 163
noncomputable def t_e1 (K : Frag) : Bool := statB K 232 "_nonempty_bases_ignoring" 165 163
noncomputable def t_keep (K : Frag) : Bool := ([204, 232, 86, 364, 59].all fun a => keepIn K (.ref a))
noncomputable def t_ic (K : Frag) : Bool := ((["bases", "key", "sro", "iro", "_ROOT", "_dependents", "_implied"] : List Str).all fun x => ownB K 364 x && setB K 364 x)
noncomputable def t_icM (K : Frag) : Bool := (ad.icMeths.all fun p => methB K 364 p.1 p.2)
noncomputable def t_icDep (K : Frag) : Bool := propB K 364 "dependents" 287 286
noncomputable def t_icIs (K : Frag) : Bool := isIn K (.ref 364) 364
noncomputable def tFns (T : List (Addr × Str × FnT × Value)) (K : Frag) : Bool := T.all fun p => fB K p.1 p.2.1 p.2.2.1.name p.2.2.2
noncomputable def t_c3Code (K : Frag) : Bool := cB K 125 (.ref 124)
noncomputable def t_icCode (K : Frag) : Bool := cB K 354 (.ref 353)
noncomputable def t_mkStat (K : Frag) : Bool := makesIn K 86 && findIn K (.ref 86) "__init__" == some (some (.ref 76)) && typeIn K (.ref 76) == some (.type "function")
noncomputable def t_mk0 (K : Frag) : Bool := makesIn K 204 && findIn K (.ref 204) "__init__" == some (some (.ref 125)) && typeIn K (.ref 125) == some (.type "function")
noncomputable def t_mk1 (K : Frag) : Bool := makesIn K 232 && findIn K (.ref 232) "__init__" == some (some (.ref 125)) && typeIn K (.ref 125) == some (.type "function")
noncomputable def t_mkIC (K : Frag) : Bool := makesIn K 364 && findIn K (.ref 364) "__init__" == some (some (.ref 354)) && typeIn K (.ref 354) == some (.type "function")
noncomputable def t_incI (K : Frag) : Bool := findIn K (.ref 59) "__init__" == some (some (.ref 56))
noncomputable def t_incT (K : Frag) : Bool := typeIn K (.ref 56) == some (.type "function")
noncomputable def t_resC (K : Frag) : Bool := specialIn K (Value.ref 204) "__getattribute__" == some (some (.builtin "type.__getattribute__")) && readsIn K 204 (.type "type") && (match findCls K (.ref 204) (.type "type") "resolver" with | some (.get g a o tp) => g == .builtin "staticmethod.__get__" && a == .ref 119 && o == Value.none && tp == .ref 204 | _ => false) && (recIn K 119 "staticmethod").any fun l => l.head? == some (.ref 117)
noncomputable def t_spC (K : Frag) : Bool := specialIn K (.ref 336) "__getattribute__" == some (some (.builtin "type.__getattribute__")) && readsIn K 336 (.type "type") && (match findCls K (.ref 336) (.type "type") "__init__" with | some (.val a) => a == .ref 279 | _ => false)
noncomputable def t_eq (K : Frag) : Bool := findIn K (.ref 364) "__eq__" == some (some (.builtin "object.__eq__")) && subIn K (.ref 364) (.type "object") == some true
noncomputable def t_roD (K : Frag) : Bool := seqB K 235 [.none, .none, .none, .none]
noncomputable def t_spD (K : Frag) : Bool := seqB K 272 [.ref 271, .none]
noncomputable def t_icD (K : Frag) : Bool := seqB K 347 [.ref 346, .none]
noncomputable def t_td (K : Frag) : Bool := seqB K 346 [] && (K.lookup 346).any fun o => o.cls == .type "tuple"
noncomputable def t_incX (K : Frag) : Bool := excB K 59 [.type "TypeError", .type "Exception", .type "BaseException", .type "object"] "TypeError.__new__" ["__setattr__", "C", "base_tree_remaining"]
noncomputable def t_incY (K : Frag) : Bool := excB K 59 [.type "TypeError", .type "Exception", .type "BaseException", .type "object"] "TypeError.__new__" ["__bool__", "__len__"]
noncomputable def t_useX (K : Frag) : Bool := excB K 100 [.type "Exception", .type "BaseException", .type "object"] "Exception.__new__" ["__init__"]
noncomputable def obTests : List (Frag → Bool) :=
  [t_glob, t_nog, t_stat, t_statHad, t_statM, t_k0, t_k1, t_n0, t_n1, t_f0, t_f1, t_m0, t_m1, t_h0, t_h1, t_l0, t_l1, t_c0, t_c1, t_e0, t_e1, t_keep, t_ic, t_icM, t_icDep, t_icIs, t_c3Code, t_icCode, t_mkStat, t_mk0, t_mk1, t_mkIC, t_incI, t_incT, t_resC, t_spC, t_eq, t_roD, t_spD, t_icD, t_td, t_incX, t_incY, t_useX]
theorem mk_b {K : Frag} {a b : Addr} (h : (makesIn K a && findIn K (.ref a) "__init__" == some (some (.ref b)) && typeIn K (.ref b) == some (.type "function")) = true) : MkA K a b := by
  simp only [Bool.and_eq_true, beq_iff_eq] at h
  exact ⟨h.1.1, h.1.2, h.2⟩
theorem any_at {vs : Array Value} {i : Nat} {f : Value → Bool} (h : (vs.toList[i]?).any f = true) : f (vs.getD i .none) = true := by
  rw [Array.getElem?_toList] at h
  cases e : vs[i]? with
  | none => rw [e] at h; cases h
  | some v => rw [e] at h; rw [Array.getD_eq_getD_getElem?, e]; exact h
theorem isStrK_of {v : Value} (h : isStrK v = true) : ∃ s t, v = .str s t := by
  cases v with
  | str s t => exact ⟨s, t, rfl⟩
  | _ => cases h
theorem isIntV_of {v : Value} (h : isIntV v = true) : ∃ s t, v = .int s t := by
  cases v with
  | int s t => exact ⟨s, t, rfl⟩
  | _ => cases h
theorem isBoolV_of {v : Value} (h : isBoolV v = true) : ∃ s, v = .bool s := by
  cases v with
  | bool s => exact ⟨s, rfl⟩
  | _ => cases h
theorem tab_b {K : Frag} {h : Heap} {c p : Addr} (X : K.In h) (hne : c ≠ p) (t : tabB K c p = true) : h.TableAt c p #[] ∧ h.IsCode c p #[] := by
  unfold tabB at t
  obtain ⟨t1, t2⟩ := (Bool.and_eq_true _ _).mp t
  split at t1
  · rename_i e1
    split at t2
    · rename_i e2
      simp only [Bool.and_eq_true, beq_iff_eq, Option.isNone_iff_eq_none, List.isEmpty_iff, Array.toList_eq_nil_iff] at t1 t2
      obtain ⟨⟨⟨⟨⟨q1, q2⟩, q3⟩, q4⟩, q5⟩, q6⟩ := t1
      obtain ⟨⟨⟨r1, r2⟩, r3⟩, r4⟩ := t2
      subst q1 r1 r2 r3 r4
      obtain ⟨_, _, e18⟩ := isStrK_of (any_at q3)
      obtain ⟨_, _, e7⟩ := isIntV_of (any_at q4)
      obtain ⟨_, e9⟩ := isBoolV_of (any_at q5)
      obtain ⟨_, _, e10⟩ := isIntV_of (any_at q6)
      rw [Array.getElem?_toList] at q2
      exact ⟨⟨⟨_, _, X _ _ e1, rfl, rfl, q2⟩, X _ _ e2⟩, ⟨_, _, _, _, _, _, _, _, _, _, X _ _ e1, rfl, by rw [Array.getD_eq_getD_getElem?, q2]; rfl, e18, e7, e9, e10, X _ _ e2, rfl, trivial, hne⟩⟩
    · cases t2
  · cases t1
noncomputable def KF (K : Frag) : Frag := K.filter fun p => p.1 != 122 && p.1 != 349
structure Obs (K : Frag) : Prop where
  t : (obTests.all fun t => t (KF K)) = true
  n : tFns fnTab (KF K) = true
  f : (fnTab.map fun p => fV (KF K) p.1) = fnTab.map fun p => some (p.2.2.1.params, .stmts p.2.2.1.body, p.2.2.1.scope)
  b : (tabB K 353 349 && tabB K 124 122 && (K.lookup 1).isSome) = true
section
variable {K : Frag} (H : Obs K)
include H
theorem Obs.at (i : Nat) {t : Frag → Bool} (e : obTests[i]? = some t) : t (KF K) = true := List.all_eq_true.mp H.t t (List.mem_of_getElem? e)
theorem Obs.q_glob : t_glob (KF K) = true := H.at 0 rfl
theorem Obs.q_nog : t_nog (KF K) = true := H.at 1 rfl
theorem Obs.q_stat : t_stat (KF K) = true := H.at 2 rfl
theorem Obs.q_statHad : t_statHad (KF K) = true := H.at 3 rfl
theorem Obs.q_statM : t_statM (KF K) = true := H.at 4 rfl
theorem Obs.q_k0 : t_k0 (KF K) = true := H.at 5 rfl
theorem Obs.q_k1 : t_k1 (KF K) = true := H.at 6 rfl
theorem Obs.q_n0 : t_n0 (KF K) = true := H.at 7 rfl
theorem Obs.q_n1 : t_n1 (KF K) = true := H.at 8 rfl
theorem Obs.q_f0 : t_f0 (KF K) = true := H.at 9 rfl
theorem Obs.q_f1 : t_f1 (KF K) = true := H.at 10 rfl
theorem Obs.q_m0 : t_m0 (KF K) = true := H.at 11 rfl
theorem Obs.q_m1 : t_m1 (KF K) = true := H.at 12 rfl
theorem Obs.q_h0 : t_h0 (KF K) = true := H.at 13 rfl
theorem Obs.q_h1 : t_h1 (KF K) = true := H.at 14 rfl
theorem Obs.q_l0 : t_l0 (KF K) = true := H.at 15 rfl
theorem Obs.q_l1 : t_l1 (KF K) = true := H.at 16 rfl
theorem Obs.q_c0 : t_c0 (KF K) = true := H.at 17 rfl
theorem Obs.q_c1 : t_c1 (KF K) = true := H.at 18 rfl
theorem Obs.q_e0 : t_e0 (KF K) = true := H.at 19 rfl
theorem Obs.q_e1 : t_e1 (KF K) = true := H.at 20 rfl
theorem Obs.q_keep : t_keep (KF K) = true := H.at 21 rfl
theorem Obs.q_ic : t_ic (KF K) = true := H.at 22 rfl
theorem Obs.q_icM : t_icM (KF K) = true := H.at 23 rfl
theorem Obs.q_icDep : t_icDep (KF K) = true := H.at 24 rfl
theorem Obs.q_icIs : t_icIs (KF K) = true := H.at 25 rfl
theorem Obs.q_c3Code : t_c3Code (KF K) = true := H.at 26 rfl
theorem Obs.q_icCode : t_icCode (KF K) = true := H.at 27 rfl
theorem Obs.q_mkStat : t_mkStat (KF K) = true := H.at 28 rfl
theorem Obs.q_mk0 : t_mk0 (KF K) = true := H.at 29 rfl
theorem Obs.q_mk1 : t_mk1 (KF K) = true := H.at 30 rfl
theorem Obs.q_mkIC : t_mkIC (KF K) = true := H.at 31 rfl
theorem Obs.q_incI : t_incI (KF K) = true := H.at 32 rfl
theorem Obs.q_incT : t_incT (KF K) = true := H.at 33 rfl
theorem Obs.q_resC : t_resC (KF K) = true := H.at 34 rfl
theorem Obs.q_spC : t_spC (KF K) = true := H.at 35 rfl
theorem Obs.q_eq : t_eq (KF K) = true := H.at 36 rfl
theorem Obs.q_roD : t_roD (KF K) = true := H.at 37 rfl
theorem Obs.q_spD : t_spD (KF K) = true := H.at 38 rfl
theorem Obs.q_icD : t_icD (KF K) = true := H.at 39 rfl
theorem Obs.q_td : t_td (KF K) = true := H.at 40 rfl
theorem Obs.q_incX : t_incX (KF K) = true := H.at 41 rfl
theorem Obs.q_incY : t_incY (KF K) = true := H.at 42 rfl
theorem Obs.q_useX : t_useX (KF K) = true := H.at 43 rfl
theorem Obs.fn (i : Nat) {p : Addr × Str × FnT × Value} (e : fnTab[i]? = some p) : FnAt (KF K) p.1 p.2.1 p.2.2.1 p.2.2.2 := by
  have h := List.all_eq_true.mp H.n p (List.mem_of_getElem? e)
  have f := congrArg (fun l => l[i]?) H.f
  simp only [List.getElem?_map, e, Option.map_some, Option.some.injEq] at f
  exact fnAt_b h f
theorem Obs.k_fMerg : FnAt (KF K) 28 "_legacy_mergeOrderings" (topF 2) .none := H.fn 0 (p := ((28 : Addr), ("_legacy_mergeOrderings" : Str), (topF 2), (.none : Value))) rfl
theorem Obs.k_fFlat : FnAt (KF K) 35 "_legacy_flatten" (topF 3) .none := H.fn 1 (p := ((35 : Addr), ("_legacy_flatten" : Str), (topF 3), (.none : Value))) rfl
theorem Obs.k_fLeg : FnAt (KF K) 42 "_legacy_ro" (topF 4) .none := H.fn 2 (p := ((42 : Addr), ("_legacy_ro" : Str), (topF 4), (.none : Value))) rfl
theorem Obs.k_fStatInit : FnAt (KF K) 76 "_StaticMRO.__init__" (clsF 6 1) .none := H.fn 3 (p := ((76 : Addr), ("_StaticMRO.__init__" : Str), (clsF 6 1), (.none : Value))) rfl
theorem Obs.k_fStatMro : FnAt (KF K) 83 "_StaticMRO.mro" (clsF 6 2) .none := H.fn 4 (p := ((83 : Addr), ("_StaticMRO.mro" : Str), (clsF 6 2), (.none : Value))) rfl
theorem Obs.k_fC3Init : FnAt (KF K) 125 "C3.__init__" (clsF 8 4) .none := H.fn 5 (p := ((125 : Addr), ("C3.__init__" : Str), (clsF 8 4), (.none : Value))) rfl
theorem Obs.k_fC3Same : FnAt (KF K) 132 "C3._same_kind" (clsF 8 5) .none := H.fn 6 (p := ((132 : Addr), ("C3._same_kind" : Str), (clsF 8 5), (.none : Value))) rfl
theorem Obs.k_fHadInc : FnAt (KF K) 139 "C3.had_inconsistency" (clsF 8 6) .none := H.fn 7 (p := ((139 : Addr), ("C3.had_inconsistency" : Str), (clsF 8 6), (.none : Value))) rfl
theorem Obs.k_fLegRo : FnAt (KF K) 147 "C3.legacy_ro" (clsF 8 7) .none := H.fn 8 (p := ((147 : Addr), ("C3.legacy_ro" : Str), (clsF 8 7), (.none : Value))) rfl
theorem Obs.k_fCanChoose : FnAt (KF K) 155 "C3._can_choose_base" (clsF 8 8) .none := H.fn 9 (p := ((155 : Addr), ("C3._can_choose_base" : Str), (clsF 8 8), (.none : Value))) rfl
theorem Obs.k_fNonEmpty : FnAt (KF K) 163 "C3._nonempty_bases_ignoring" (clsF 8 9) .none := H.fn 10 (p := ((163 : Addr), ("C3._nonempty_bases_ignoring" : Str), (clsF 8 9), (.none : Value))) rfl
theorem Obs.k_fChooseNext : FnAt (KF K) 173 "C3._choose_next_base" (clsF 8 10) .none := H.fn 11 (p := ((173 : Addr), ("C3._choose_next_base" : Str), (clsF 8 10), (.none : Value))) rfl
theorem Obs.k_fFindNext : FnAt (KF K) 180 "C3._find_next_C3_base" (clsF 8 11) .none := H.fn 12 (p := ((180 : Addr), ("C3._find_next_C3_base" : Str), (clsF 8 11), (.none : Value))) rfl
theorem Obs.k_fC3Guess : FnAt (KF K) 187 "C3._guess_next_base" (clsF 8 12) .none := H.fn 13 (p := ((187 : Addr), ("C3._guess_next_base" : Str), (clsF 8 12), (.none : Value))) rfl
theorem Obs.k_fMergeF : FnAt (KF K) 194 "C3._merge" (clsF 8 13) .none := H.fn 14 (p := ((194 : Addr), ("C3._merge" : Str), (clsF 8 13), (.none : Value))) rfl
theorem Obs.k_fMroF : FnAt (KF K) 201 "C3.mro" (clsF 8 14) .none := H.fn 15 (p := ((201 : Addr), ("C3.mro" : Str), (clsF 8 14), (.none : Value))) rfl
theorem Obs.k_fScSame : FnAt (KF K) 222 "_StrictC3._same_kind" (clsF 9 0) .none := H.fn 16 (p := ((222 : Addr), ("_StrictC3._same_kind" : Str), (clsF 9 0), (.none : Value))) rfl
theorem Obs.k_fScGuess : FnAt (KF K) 229 "_StrictC3._guess_next_base" (clsF 9 1) .none := H.fn 17 (p := ((229 : Addr), ("_StrictC3._guess_next_base" : Str), (clsF 9 1), (.none : Value))) rfl
theorem Obs.k_fIncInit : FnAt (KF K) 56 "InconsistentResolutionOrderError.__init__" (clsF 5 0) .none := H.fn 18 (p := ((56 : Addr), ("InconsistentResolutionOrderError.__init__" : Str), (clsF 5 0), (.none : Value))) rfl
theorem Obs.k_fRes : FnAt (KF K) 117 "C3.resolver" (clsF 8 0) .none := H.fn 19 (p := ((117 : Addr), ("C3.resolver" : Str), (clsF 8 0), (.none : Value))) rfl
theorem Obs.k_fMerge : FnAt (KF K) 371 "_law_merge" (topF 16) .none := H.fn 20 (p := ((371 : Addr), ("_law_merge" : Str), (topF 16), (.none : Value))) rfl
theorem Obs.k_fWalk : FnAt (KF K) 378 "_law_walk" (topF 17) .none := H.fn 21 (p := ((378 : Addr), ("_law_walk" : Str), (topF 17), (.none : Value))) rfl
theorem Obs.k_fOrders : FnAt (KF K) 383 "_law_orders" (topF 18) .none := H.fn 22 (p := ((383 : Addr), ("_law_orders" : Str), (topF 18), (.none : Value))) rfl
theorem Obs.k_fNumbers : FnAt (KF K) 388 "_law_numbers" (topF 19) .none := H.fn 23 (p := ((388 : Addr), ("_law_numbers" : Str), (topF 19), (.none : Value))) rfl
theorem Obs.k_fPlain : FnAt (KF K) 395 "_law_plain" (topF 20) .none := H.fn 24 (p := ((395 : Addr), ("_law_plain" : Str), (topF 20), (.none : Value))) rfl
theorem Obs.k_fLooks : FnAt (KF K) 402 "_law_looks" (topF 21) .none := H.fn 25 (p := ((402 : Addr), ("_law_looks" : Str), (topF 21), (.none : Value))) rfl
theorem Obs.k_fTurn : FnAt (KF K) 407 "_law_turn" (topF 22) .none := H.fn 26 (p := ((407 : Addr), ("_law_turn" : Str), (topF 22), (.none : Value))) rfl
theorem Obs.k_fLaw : FnAt (KF K) 412 "law" (topF 23) .none := H.fn 27 (p := ((412 : Addr), ("law" : Str), (topF 23), (.none : Value))) rfl
theorem Obs.k_fDep : FnAt (KF K) 286 "Specification.dependents" (clsF 13 1) .none := H.fn 28 (p := ((286 : Addr), ("Specification.dependents" : Str), (clsF 13 1), (.none : Value))) rfl
theorem Obs.k_fSub : FnAt (KF K) 294 "Specification.subscribe" (clsF 13 2) .none := H.fn 29 (p := ((294 : Addr), ("Specification.subscribe" : Str), (clsF 13 2), (.none : Value))) rfl
theorem Obs.k_fUnsub : FnAt (KF K) 301 "Specification.unsubscribe" (clsF 13 3) .none := H.fn 30 (p := ((301 : Addr), ("Specification.unsubscribe" : Str), (clsF 13 3), (.none : Value))) rfl
theorem Obs.k_fSetB : FnAt (KF K) 308 "Specification.setBases" (clsF 13 4) .none := H.fn 31 (p := ((308 : Addr), ("Specification.setBases" : Str), (clsF 13 4), (.none : Value))) rfl
theorem Obs.k_fCalc : FnAt (KF K) 313 "Specification._calculate_sro" (clsF 13 5) .none := H.fn 32 (p := ((313 : Addr), ("Specification._calculate_sro" : Str), (clsF 13 5), (.none : Value))) rfl
theorem Obs.k_fChg : FnAt (KF K) 318 "Specification.changed" (clsF 13 6) .none := H.fn 33 (p := ((318 : Addr), ("Specification.changed" : Str), (clsF 13 6), (.none : Value))) rfl
theorem Obs.k_fRo : FnAt (KF K) 242 "ro" (topF 10) (.ref 235) := H.fn 34 (p := ((242 : Addr), ("ro" : Str), (topF 10), ((.ref 235) : Value))) rfl
theorem Obs.k_fSpInit : FnAt (KF K) 279 "Specification.__init__" (clsF 13 0) (.ref 272) := H.fn 35 (p := ((279 : Addr), ("Specification.__init__" : Str), (clsF 13 0), ((.ref 272) : Value))) rfl
theorem Obs.k_c3Code : FnAtC (KF K) 125 "C3.__init__" (clsF 8 4) .none (.ref 124) := fnAtC_b (H.fn 36 (p := ((125 : Addr), ("C3.__init__" : Str), (clsF 8 4), (.none : Value))) rfl) H.q_c3Code
theorem Obs.k_icCode : FnAtC (KF K) 354 "InterfaceClass.__init__" (clsF 14 0) (.ref 347) (.ref 353) := fnAtC_b (H.fn 37 (p := ((354 : Addr), ("InterfaceClass.__init__" : Str), (clsF 14 0), ((.ref 347) : Value))) rfl) H.q_icCode
theorem Obs.k_mkStat : MkA (KF K) 86 76 := mk_b H.q_mkStat
theorem Obs.k_mk0 : MkA (KF K) 204 125 := mk_b H.q_mk0
theorem Obs.k_mk1 : MkA (KF K) 232 125 := mk_b H.q_mk1
theorem Obs.k_mkIC : MkA (KF K) 364 354 := mk_b H.q_mkIC
theorem Obs.k_incI : findIn (KF K) (.ref 59) "__init__" = some (some (.ref 56)) := eq_of_beq H.q_incI
theorem Obs.k_incT : typeIn (KF K) (.ref 56) = some (.type "function") := eq_of_beq H.q_incT
theorem Obs.k_resC : StatC (KF K) 204 "resolver" 117 := by
  have h := H.q_resC
  simp only [t_resC, Bool.and_eq_true, beq_iff_eq] at h
  obtain ⟨⟨⟨h1, h2⟩, h3⟩, h4⟩ := h
  split at h3
  · rename_i g a o tp e
    simp only [Bool.and_eq_true, beq_iff_eq] at h3
    obtain ⟨⟨⟨q1, q2⟩, q3⟩, q4⟩ := h3
    subst q1 q2 q3 q4
    cases r : recIn (KF K) 119 "staticmethod" with
    | none => rw [r] at h4; cases h4
    | some l =>
      rw [r] at h4
      cases l with
      | nil => cases h4
      | cons x l =>
        have : x = .ref 117 := Option.some.inj (eq_of_beq (h4 : (some x == some (Value.ref 117)) = true))
        subst this
        exact ⟨h1, .type "type", 119, l, h2, e, r⟩
  · cases h3
theorem Obs.k_spC : FnC (KF K) 336 "__init__" 279 := by
  have h := H.q_spC
  simp only [t_spC, Bool.and_eq_true, beq_iff_eq] at h
  obtain ⟨⟨h1, h2⟩, h3⟩ := h
  split at h3
  · rename_i a e
    have q := eq_of_beq h3
    subst q
    exact ⟨h1, .type "type", h2, e⟩
  · cases h3
theorem Obs.k_eq : EqK (KF K) 364 := by
  have h := H.q_eq
  simp only [t_eq, Bool.and_eq_true, beq_iff_eq] at h
  exact ⟨h.1, h.2⟩
theorem Obs.k_roD : ∃ o n, (KF K).lookup 235 = some o ∧ o.data = .seq #[.none, .none, .none, .none] n := seq_b H.q_roD
theorem Obs.k_spD : ∃ o td n, (KF K).lookup 272 = some o ∧ o.data = .seq #[.ref td, .none] n := let ⟨o, n, h⟩ := seq_b H.q_spD; ⟨o, 271, n, h⟩
theorem Obs.k_icD : ∃ o n, (KF K).lookup 347 = some o ∧ o.data = .seq #[.ref 346, .none] n := seq_b H.q_icD
theorem Obs.k_td : ∃ o n, (KF K).lookup 346 = some o ∧ o.cls = .type "tuple" ∧ o.data = .seq #[] n := by
  have h := H.q_td
  simp only [t_td, Bool.and_eq_true] at h
  obtain ⟨o, n, e, d⟩ := seq_b h.1
  have h2 := h.2
  rw [e] at h2
  exact ⟨o, n, e, eq_of_beq (h2 : (o.cls == Value.type "tuple") = true), d⟩
theorem Obs.k_b : tabB K 353 349 = true ∧ tabB K 124 122 = true ∧ ∃ o, K.lookup 1 = some o := by
  have h := H.b
  simp only [Bool.and_eq_true] at h
  exact ⟨h.1.1, h.1.2, Option.isSome_iff_exists.mp h.2⟩
end
theorem KF_lookup (K : Frag) (a : Addr) : (KF K).lookup a = if (a != 122 && a != 349) = true then K.lookup a else none := lookup_filter (fun a => a != 122 && a != 349) a _
theorem KF_in {K : Frag} {h : Heap} (X : Frag.In K h) : Frag.In (KF K) h := fun a o e => by
  rw [KF_lookup] at e
  split at e
  · exact X a o e
  · cases e
theorem KF_kn {K : Frag} {a : Addr} {o : Obj} (e : (KF K).lookup a = some o) : a ≠ 349 ∧ a ≠ 122 := by
  rw [KF_lookup] at e
  split at e
  · rename_i h
    simp at h
    exact ⟨h.2, h.1⟩
  · cases e
end Mine
end
section
open PySem PySem.W PyProof.Rows PySem.Calls
set_option Elab.async false
set_option maxRecDepth 100000
set_option linter.unusedVariables false
set_option maxHeartbeats 0
namespace Mine
open PySem (Sem Str Value Heap Obj Shared)
noncomputable def topRunT (tb : String → Option Builtin) (p : Program) (w : World) (n₀ : Nat) (ann : Option Value) : Nat → SharedT → Thread → Option SharedT
  | 0, _, _ => none
  | n + 1, s, t => match through t with
    | true => some s
    | false => match stepOk n₀ ann t with
      | false => none
      | true => match stepT (denote tb) p w s t with
        | some (s', t') => topRunT tb p w n₀ ann n s' t'
        | none => none
theorem topRun_of {tb : String → Option Builtin} {p : Program} {w : World} {n₀ : Nat} {ann : Option Value} : ∀ {n : Nat} {s s' : SharedT} {t : Thread},
    topRunT tb p w n₀ ann n s t = some s' → topRun tb p w n₀ ann n s.abs t = some s'.abs
  | 0, _, _, _, h => by cases h
  | n + 1, s, s', t, h => by
    unfold topRunT at h
    unfold topRun
    cases he : through t with
    | true => rw [he] at h; cases h; rfl
    | false =>
      rw [he] at h
      cases hk : stepOk n₀ ann t with
      | false => rw [hk] at h; cases h
      | true =>
        rw [hk] at h
        cases hs : stepT (denote tb) p w s t with
        | none => rw [hs] at h; cases h
        | some r => obtain ⟨s₂, t₂⟩ := r; rw [hs] at h; dsimp only; rw [stepT_spec hs]; exact topRun_of h
noncomputable abbrev prg : Program := PySem.Challenge.rw_jp0055_01.row.prog
noncomputable def treeOf : Nat → List Obj → BT → BT
  | _, [], t => t
  | n, o :: l, t => treeOf (n + 1) l (t.ins n o)
noncomputable def bootT (P : Params) : BT := treeOf 0 (boot_heap P).objs.toList .nil
theorem boot_abs (P : Params) : boot_heap P = absHeap (bootT P) 11 (boot_heap P).life := by kernel_rfl
theorem ht_open : opening prg = plainProg prg.main.scope.names := by kernel_rfl
theorem ht_fence : ∀ s, fenceModules? prg s = some s := fun s => by kernel_rfl
noncomputable def hLoose : List Str := ["_wall", "_legacy_mergeOrderings", "_legacy_flatten", "_legacy_ro", "InconsistentResolutionOrderError", "_StaticMRO", "_UseLegacyRO", "C3", "_StrictC3", "ro", "SpecificationBase", "Specification", "InterfaceClass", "_law_merge", "_law_walk", "_law_orders", "_law_numbers", "_law_plain", "_law_looks", "_law_turn"]
noncomputable def hq : Program := view prg [23]
noncomputable def hXt (q : Program) (R : WRecords) (s : Shared) : Bool := xlAt q [] s && recOk R s
noncomputable abbrev hR : WRecords := RowW.records (OpenRow.toRowW PySem.Challenge.rw_jp0055_01.row)
noncomputable abbrev hT := List (Addr × Str × FnT × Value)
noncomputable def obAds : List Nat := [364, 363, 204, 203, 232, 231, 336, 335, 259, 258, 86, 85, 1, 2, 3, 59, 58, 100, 99, 27, 28, 34, 35, 41, 42, 55, 56, 75, 76, 82, 83, 116, 117, 119, 122, 124, 125, 131, 132, 138, 139, 140, 146, 147, 148, 154, 155, 157, 162, 163, 165, 172, 173, 179, 180, 186, 187, 193, 194, 200, 201, 221, 222, 228, 229, 235, 241, 242, 272, 278, 279, 285, 286, 287, 293, 294, 300, 301, 307, 308, 312, 313, 317, 318, 346, 347, 349, 353, 354, 370, 371, 377, 378, 382, 383, 387, 388, 394, 395, 401, 402, 406, 407, 411, 412]
noncomputable def obK (h : Heap) : Frag := obAds.filterMap fun a => (h.get? a).map fun o => (a, o)
noncomputable def obKT (s : SharedT) : Frag := obAds.filterMap fun a => ((s.tree.get a).bind alive).map fun o => (a, o)
noncomputable def obOk (s : SharedT) : Bool := obAds.all fun a => Nat.blt a s.n && (s.tree.get a).isSome
theorem obK_at {h : Heap} {a : Addr} {o : Obj} : ∀ {l : List Nat}, (l.filterMap fun a => (h.get? a).map fun o => (a, o)).lookup a = some o → h.get? a = some o
  | [], e => by cases e
  | b :: l, e => by
    rw [List.filterMap_cons] at e
    cases q : h.get? b with
    | none => rw [q] at e; exact obK_at e
    | some x =>
      rw [q] at e
      dsimp only [Option.map_some] at e
      rw [List.lookup_cons] at e
      split at e
      · rename_i c
        cases e
        rw [eq_of_beq c, q]
      · exact obK_at e
theorem obK_in (h : Heap) : Frag.In (obK h) h := fun a o e => obK_at e
theorem fmap_congr {α β : Type} {f g : α → Option β} : ∀ {l : List α}, (∀ a ∈ l, f a = g a) → l.filterMap f = l.filterMap g
  | [], _ => rfl
  | a :: l, h => by rw [List.filterMap_cons, List.filterMap_cons, h a (.head _), fmap_congr fun b hb => h b (.tail _ hb)]
theorem obKT_eq {s : SharedT} (h : obOk s = true) : obKT s = obK s.abs.heap := by
  unfold obKT obK
  refine fmap_congr fun a ha => ?_
  obtain ⟨h1, h2⟩ := (Bool.and_eq_true _ _).mp (List.all_eq_true.mp h a ha)
  obtain ⟨o, e⟩ := Option.isSome_iff_exists.mp h2
  rw [e]
  have lt : a < s.n := Nat.le_of_ble_eq_true h1
  show (alive o).map _ = ((absHeap s.tree s.n s.life).get? a).map _
  rw [abs_get lt e]
noncomputable abbrev ObT := Bool × List (Option (Arguments × FuncBody × Scope)) × Bool
noncomputable def forceO : List (Addr × Obj) → (Frag → ObT) → ObT
  | [], k => k []
  | (a, ⟨c, d, x, sl⟩) :: l, k => match x with
    | .func f => forceO l fun r => k ((a, ⟨c, d, .func f, sl⟩) :: r)
    | .cls f => forceO l fun r => k ((a, ⟨c, d, .cls f, sl⟩) :: r)
    | .dict ⟨es⟩ n => forceO l fun r => k ((a, ⟨c, d, .dict ⟨es⟩ n, sl⟩) :: r)
    | x => forceO l fun r => k ((a, ⟨c, d, x, sl⟩) :: r)
theorem forceO_eq : ∀ (l : Frag) (k : Frag → ObT), forceO l k = k l
  | [], k => rfl
  | (a, ⟨c, d, x, sl⟩) :: l, k => by
    unfold forceO
    split
    all_goals exact forceO_eq l _
noncomputable def obSee (T : hT) (K : Frag) : ObT := forceO (KF K) fun F => (obTests.all (fun t => t F) && tFns T F, T.map fun p => fV F p.1, tabB K 353 349 && tabB K 124 122 && (K.lookup 1).isSome)
noncomputable def obGood (T : hT) : ObT := (true, T.map fun p => some (p.2.2.1.params, .stmts p.2.2.1.body, p.2.2.1.scope), true)
theorem obs_of {K : Frag} (h : obSee fnTab K = obGood fnTab) : Obs K := by
  unfold obSee obGood at h
  rw [forceO_eq] at h
  simp only [Prod.mk.injEq, Bool.and_eq_true] at h
  exact ⟨h.1.1, h.1.2, h.2.1, by simpa only [Bool.and_eq_true] using h.2.2⟩
noncomputable def obSays (w : World) (h : Heap) : Prop := ∃ K, Frag.In K h ∧ Obs K
theorem obSays_keeps (w : World) (h h' : Heap) (x : obSays w h) (k : ∀ b o, h.get? b = some o → h'.get? b = some o) : obSays w h' :=
  let ⟨K, i, o⟩ := x
  ⟨K, i.keeps k, o⟩
theorem ht_size (w : World) : ((boot_heap w.params).isNs mainGlobals && (#[] : Array GenState).size == 0, (boot_heap w.params).objs.size) = (true, 11) := by kernel_rfl
noncomputable def htRun (p : Program) (N : Nat) (w : World) (os : OsState) : Option SharedT :=
  topRunT treeTable p w 11 ((boot_heap w.params).nsMap mainGlobals "__annotations__") N ⟨bootT w.params, 11, (boot_heap w.params).life, #[], boot_drawn, boot_toks, os⟩ (topStub p)
theorem ht_top {w : World} {os : OsState} {s : SharedT} {N : Nat}
    (hs : topRunT treeTable prg w 11 ((boot_heap w.params).nsMap mainGlobals "__annotations__") N ⟨bootT w.params, 11, (boot_heap w.params).life, #[], boot_drawn, boot_toks, os⟩ (topStub prg) = some s)
    (l1 : staticsOk (importedModules prg.main.body) (boot_heap w.params) s.abs.heap = true) (l2 : namesBound prg s.abs.heap = true) (l3 : gensDone s.abs = true) (l4 : laidKept (boot_heap w.params) s.abs.heap = true) :
    topFrom treeTable prg w N ⟨boot_heap w.params, #[], boot_drawn, boot_toks, os⟩ = some s.abs := by
  obtain ⟨z1, z2⟩ := Prod.mk.inj (ht_size w)
  have r := topRun_of hs
  have q : SharedT.abs ⟨bootT w.params, 11, (boot_heap w.params).life, #[], boot_drawn, boot_toks, os⟩ = (⟨boot_heap w.params, #[], boot_drawn, boot_toks, os⟩ : Shared) := by
    show Shared.mk (absHeap (bootT w.params) 11 (boot_heap w.params).life) _ _ _ _ = _
    rw [← boot_abs]
  rw [q] at r
  unfold topFrom
  dsimp only
  rw [z1, z2, r, Option.bind_some, l1, l2, l3, l4]
  rfl
noncomputable def htLook (p q : Program) (R : WRecords) (T : hT) (w : World) (s : SharedT) :=
   ((staticsOk (importedModules p.main.body) (boot_heap w.params) s.abs.heap && namesBound p s.abs.heap && gensDone s.abs && laidKept (boot_heap w.params) s.abs.heap && obOk s), openSeen q hLoose (importedModules p.main.body) (hXt q R) true s.abs, obSee T (obKT s))
noncomputable def htGood (q : Program) (T : hT) := (openGood q hLoose, obGood T)
noncomputable abbrev hXo : Shared → Bool := hXt hq hR
theorem ht_go {N : Nat} (hN : Nat.ble 600 N = true) (see : ∀ w os, (htRun prg N w os).map (htLook prg hq hR fnTab w) = some (true, htGood hq fnTab)) : LeftO prg hq hLoose hXo (fun s => obSee fnTab (obK s.heap)) (fun _ => obGood fnTab) N := fun w => by
  obtain ⟨⟨h, gs, d, k, os⟩, e, e'⟩ := Option.map_eq_some_iff.mp (boot_open (p := prg) (N := N) ht_open hN ht_fence w)
  obtain ⟨rfl, rfl, rfl, rfl⟩ : h = boot_heap w.params ∧ gs = #[] ∧ d = boot_drawn ∧ k = boot_toks := by simpa using e'
  obtain ⟨s, hs, hv⟩ := Option.map_eq_some_iff.mp (see w os)
  obtain ⟨v1, v2⟩ := Prod.mk.inj hv
  obtain ⟨v2, v3⟩ := Prod.mk.inj v2
  simp only [Bool.and_eq_true] at v1
  obtain ⟨⟨⟨⟨l1, l2⟩, l3⟩, l4⟩, l5⟩ := v1
  have t := ht_top hs l1 l2 l3 l4
  unfold openEnds
  rw [e, Option.bind_some, t, Option.map_some]
  rw [obKT_eq l5] at v3
  exact congrArg some (Prod.ext v2 v3)
noncomputable def htSeen (p q : Program) (R : WRecords) (T : hT) (w : World) (os : OsState) := (htRun p 4000 w os).map (htLook p q R T w)
theorem htSeen_e : htSeen = htSeen := rfl
theorem htGood_e : htGood = htGood := rfl
name_quick htSeenQ for Mine.htSeen by Mine.htSeen_e
name_quick htGoodQ for Mine.htGood by Mine.htGood_e
theorem ht_run : ∀ w os, PySem.W.Fast.htSeenQ prg hq hR fnTab w os = some (true, PySem.W.Fast.htGoodQ hq fnTab) := fun w os => by kernel_rfl
theorem ht_seen (w : World) (os : OsState) : htSeen prg hq hR fnTab w os = some (true, htGood hq fnTab) := by
  rw [PySem.W.Fast.htSeenQ_eq, PySem.W.Fast.htGoodQ_eq]; exact ht_run w os
theorem ht_left : LeftO prg hq hLoose hXo (fun s => obSee fnTab (obK s.heap)) (fun _ => obGood fnTab) 4000 := ht_go rfl ht_seen
end Mine
end
section
open PySem PySem.W PyProof.Rows PySem.Calls
set_option Elab.async false
set_option maxRecDepth 100000
set_option linter.unusedVariables false
set_option maxHeartbeats 0
namespace Mine
open PySem (Sem Str Value Heap Obj Shared)
noncomputable abbrev cxOf (K : Frag) (w : World) (s : Shared) (mg mb : Str → Option Value) : Cx := ⟨prg, w, s.heap, KF K, mg, mb, 353, 349, icPos, 124, 122, c3Pos, s.os⟩
section
variable {w : World} {s : Shared} {mg mb : Str → Option Value} {K : Frag}
theorem all_and {l : List Str} {f g : Str → Bool} (h : (l.all fun x => f x && g x) = true) {x : Str} (hx : l.contains x = true) : f x = true ∧ g x = true := (Bool.and_eq_true _ _).mp (all_contains (f := fun x => f x && g x) h hx)
theorem k_keepA (H : Obs K) {a : Addr} (ha : a ∈ [204, 232, 86, 364, 59]) : keepIn (KF K) (.ref a) = true := List.all_eq_true.mp H.q_keep a ha
theorem br_text (X : Frag.In K s.heap) (H : Obs K) : Text (cxOf K w s mg mb) ad := by
  have XK : (KF K).In s.heap := KF_in X
  refine {
    glob := fun x v h => ?_
    nog := fun x h => eq_of_beq (all_contains (f := fun x => nsIn (KF K) mainGlobals x == some none) (H.q_nog) h)
    fMerg := H.k_fMerg, fFlat := H.k_fFlat, fLeg := H.k_fLeg, fStatInit := H.k_fStatInit, fStatMro := H.k_fStatMro, fC3Init := H.k_fC3Init, fC3Same := H.k_fC3Same, fHadInc := H.k_fHadInc, fLegRo := H.k_fLegRo, fCanChoose := H.k_fCanChoose, fNonEmpty := H.k_fNonEmpty
    fChooseNext := H.k_fChooseNext, fFindNext := H.k_fFindNext, fC3Guess := H.k_fC3Guess, fMergeF := H.k_fMergeF, fMroF := H.k_fMroF, fScSame := H.k_fScSame, fScGuess := H.k_fScGuess
    statOwn := fun x h => ownA_of (all_and (H.q_stat) h).1
    statSet := fun x h => setA_of (all_and (H.q_stat) h).2
    statHad := clsA_of (H.q_statHad)
    statM := methA_of (H.q_statM)
    mkStat := H.k_mkStat
    kOwn := fun b x h => ?_
    kSet := fun b x h => ?_
    kNone := fun b x h => ?_
    kFalse := fun b => ?_
    kMeth := fun b x f h => ?_
    kHad := fun b => ?_
    kLeg := fun b => ?_
    kCan := fun b => ?_
    kNon := fun b => ?_
    mkKind := fun b => ?_
    kKeep := fun b => ?_
    statKeep := k_keepA H (by decide)
    icOwn := fun x h => ownA_of (all_and (H.q_ic) h).1
    icSet := fun x h => setA_of (all_and (H.q_ic) h).2
    icMeth := fun x f h => methA_of (List.all_eq_true.mp (H.q_icM) (x, f) (lookup_mem h))
    icDep := propA_of 287 (H.q_icDep)
    icKeep := k_keepA H (by decide)
    fIncInit := H.k_fIncInit
    incI := H.k_incI
    incT := H.k_incT
    incX := exc_b XK H.q_incX
    incKeep := k_keepA H (by decide)
    useX := exc_b XK H.q_useX }
  · exact eq_of_beq (List.all_eq_true.mp (H.q_glob) (x, v) (lookup_mem h))
  · cases b
    · exact ownA_of (all_and (H.q_k0) h).1
    · exact ownA_of (all_and (H.q_k1) h).1
  · cases b
    · exact setA_of (all_and (H.q_k0) h).2
    · exact setA_of (all_and (H.q_k1) h).2
  · cases b
    · exact clsA_of (all_contains (H.q_n0) h)
    · exact clsA_of (all_contains (H.q_n1) h)
  · cases b
    · exact clsA_of (H.q_f0)
    · exact clsA_of (H.q_f1)
  · cases b
    · exact methA_of (List.all_eq_true.mp (H.q_m0) (x, f) (lookup_mem h))
    · exact methA_of (List.all_eq_true.mp (H.q_m1) (x, f) (lookup_mem h))
  · cases b
    · exact propA_of 140 (H.q_h0)
    · exact propA_of 140 (H.q_h1)
  · cases b
    · exact propA_of 148 (H.q_l0)
    · exact propA_of 148 (H.q_l1)
  · cases b
    · exact statA_of 157 (H.q_c0)
    · exact statA_of 157 (H.q_c1)
  · cases b
    · exact statA_of 165 (H.q_e0)
    · exact statA_of 165 (H.q_e1)
  · cases b
    · exact H.k_mk0
    · exact H.k_mk1
  · cases b
    · exact k_keepA H (a := 204) (by decide)
    · exact k_keepA H (a := 232) (by decide)
theorem br_textR (X : Frag.In K s.heap) (H : Obs K) (bm : BMd (cxOf K w s mg mb)) : TextR (cxOf K w s mg mb) ad :=
  ⟨exc_b (KF_in X) H.q_incY, bm, ⟨.inr ⟨rfl, rfl, rfl⟩, (tab_b X (by decide) H.k_b.2.1).2⟩, H.k_c3Code⟩
theorem br_textO (H : Obs K) (w : World) (s : Shared) (mg mb : Str → Option Value) : TextO (cxOf K w s mg mb) ad := ⟨H.k_fRes, H.k_resC, H.k_fRo, H.k_roD, H.k_eq⟩
theorem br_textS (H : Obs K) (w : World) (s : Shared) (mg mb : Str → Option Value) : TextS (cxOf K w s mg mb) ad := ⟨H.k_fSpInit, H.k_fDep, H.k_fSub, H.k_fUnsub, H.k_fSetB, H.k_fCalc, H.k_fChg, H.q_icIs⟩
theorem br_textI (X : Frag.In K s.heap) (H : Obs K) : TextI (cxOf K w s mg mb) ad := ⟨H.k_icCode, ⟨.inl ⟨rfl, rfl, rfl⟩, (tab_b X (by decide) H.k_b.1).2⟩, H.k_spC, H.k_mkIC, H.k_spD⟩
theorem br_textD (H : Obs K) (w : World) (s : Shared) (mg mb : Str → Option Value) : TextD (cxOf K w s mg mb) ad 346 := ⟨H.k_icD⟩
theorem br_textL (H : Obs K) (w : World) (s : Shared) (mg mb : Str → Option Value) : TextL (cxOf K w s mg mb) ad := ⟨H.k_fMerge, H.k_fWalk, H.k_fOrders, H.k_fNumbers, H.k_fPlain, H.k_fLooks, H.k_fTurn⟩
theorem br_ok (X : Frag.In K s.heap) (H : Obs K) (g : s.heap.Ns mainGlobals mg) (b : s.heap.Ns builtinsNs mb) (bi : ∀ x : Str, x ≠ "__name__" → mb x = bootBuiltins x) (nl : s.heap.NoLimit) : (cxOf K w s mg mb).Ok :=
  ⟨KF_in X, fun a o e => KF_kn e, g, b, bi, nl, (tab_b X (by decide) H.k_b.1).1, (tab_b X (by decide) H.k_b.2.1).1, (by decide : (349 : Nat) ≠ 122), by
    show s.heap.get? 1 ≠ none
    obtain ⟨o, e⟩ := H.k_b.2.2
    rw [X _ _ e]; exact fun z => nomatch z⟩
theorem old_ok {C : Cx} {h : Heap} (A : Amb C h) : OldK C.hb h := by
  have O := A.ok
  have tb : ∀ {c P : Addr} {p : Pos} {o : Obj}, C.hb.TableAt c P #[] → Tab h c P p → C.hb.get? P = some o → asItWas C.hb h P o ∧ ∃ o', h.get? P = some o' := fun {c P p o} t0 t e => by
    rw [t0.2] at e; cases e
    rcases t with t | ⟨c', t⟩
    · exact ⟨.inl t.2, _, t.2⟩
    · exact ⟨.inr (.inl ⟨t0.isCodeTable, rfl, #[], #[rawInt p.line, rawInt p.col, .ref c'], rfl, by rw [t.2]; simp⟩), _, t.2⟩
  refine ⟨fun b o e => ?_, fun b o e => ?_⟩
  · by_cases h1 : b = C.P1
    · subst h1; exact (tb O.t1 A.t1 e).1
    · by_cases h2 : b = C.P2
      · subst h2; exact (tb O.t2 A.t2 e).1
      · exact .inl (A.old b o e h1 h2)
  · by_cases h1 : b = C.P1
    · subst h1; exact (tb O.t1 A.t1 e).2
    · by_cases h2 : b = C.P2
      · subst h2; exact (tb O.t2 A.t2 e).2
      · exact ⟨o, A.old b o e h1 h2⟩
end
end Mine
end
section
open PySem PySem.W PySem.W.X PyProof.Rows PySem.Calls
set_option Elab.async false
set_option maxRecDepth 100000
set_option linter.unusedVariables false
set_option maxHeartbeats 0
namespace Mine
open PySem (Sem Str Value Heap Obj Shared)
theorem br_call {w : World} {s : Shared} {mg mb : Str → Option Value} {l : Addr} {vs : List Value} {ks : List Int} {c : ClaimW} {cl : Str → Option Addr} {mean : ExcName → Option Value} {args : List WData}
    {K : Frag} (X : Frag.In K s.heap) (H : Obs K) (g : s.heap.Ns mainGlobals mg) (b : s.heap.Ns builtinsNs mb) (bi : ∀ x : Str, x ≠ "__name__" → mb x = bootBuiltins x) (nl : s.heap.NoLimit)
    (bm : ∃ bm ob, mg "__builtins__" = some (.ref bm) ∧ bm ≠ builtinsNs ∧ s.heap.get? bm = some ob ∧ ob.cls = .type "module" ∧ ob.dict = some builtinsNs ∧ ob.data = .plain) (hg : s.gens = #[])
    (hl : s.heap.IsList l vs.toArray) (hi : IntsAre vs ks) (hz : ks.length ≤ 63) (hr : ∀ cls, c.raises args cls = false) (hp : c.post args (.bool true) args = true) :
    codeAny (model prg w) callerA (.call (.ref 412) ⟨[.ref l], []⟩) (GoodWG c cl mean args s) s := by
  have O := br_ok (w := w) (s := s) X H g b bi nl
  obtain ⟨otd, ntd, e1, e2, e3⟩ := H.k_td
  have S : St (cxOf K w s mg mb) (fun a => if a = 346 then some (.tup []) else none) [] [] s := by
    refine ⟨Amb.start O, rfl, .of_eq hg, fun a x h => ?_, fun p hp => (nomatch hp), List.nodup_nil⟩
    by_cases q : a = 346
    · subst q
      rw [if_pos rfl] at h
      cases h
      exact ⟨⟨_, KF_in X _ _ e1, e2, _, e3⟩, .inr ⟨[], rfl⟩⟩
    · rw [if_neg q] at h; cases h
  have hvl : vs.length ≤ 63 := by rw [hi.length]; exact hz
  refine law_ok (C := cxOf K w s mg mb) (a := ad) (td := 346) (sl := l) (l := []) (br_text X H) (br_textR X H ⟨bm⟩) (br_textO H w s mg mb) (br_textS H w s mg mb) (br_textI X H) (br_textD H w s mg mb) (br_textL H w s mg mb) H.k_fLaw
    (fun m V g' _ _ M => plain_ok M) hl hi hvl S (if_pos rfl) ⟨by decide, by decide⟩ rfl rfl (fun _ h => (nomatch h)) fun ρ' s' S' => ?_
  exact ⟨.inl ⟨_, _, [], rfl, hr, ReadsW.bool true, hp, fun _ => ⟨List.nodup_nil, fun _ hm => (nomatch hm)⟩⟩, old_ok S'.amb, S'.os, S'.gens⟩
theorem hd_ok : PySem.Challenge.rw_jp0055_01.wellSaid = true := by kernel_rfl
theorem hd_row : PySem.Challenge.rw_jp0055_01.row.wellSaid = true := row_said hd_ok
theorem fin : PySem.Challenge.rw_jp0055_01.Holds := by
  w_on
  refine holds_law hd_ok fun said => ?_
  clear said
  refine holds_open (q := hq) (loose := hLoose) (Xt := hXo) (XP := XL hq []) (YP := obSays) (N := 4000) ht_left (fun w s e => ⟨obK s.heap, obK_in _, obs_of e⟩) obSays_keeps
    (fun s e => xl_of s (Bool.and_eq_true_iff.mp e).1) XL.keeps (by rfl) (by rfl) (by rfl) (fun s e => recFacts_of (Bool.and_eq_true_iff.mp e).2) (by rfl) hd_row (by decide +kernel) ⟨rfl, rfl, rfl, rfl, rfl, by decide +kernel⟩ ?hw ?hc
  case hw => w_witness2
  case hc =>
    intro w s₀ s₁ mg mb G Y fa o pm cd doc dV kV ho hdd hcd hD hmg hg args vals as hpre hlay hrd hwl hlo
    obtain ⟨K, KX, H⟩ := Y
    clear ho hdd hcd hD
    refine Ground.open G ?_
    intro T B D TE TW
    clear G
    wrow_args hpre hlay hrd hwl hlo
    clear D TE TW B
    have q : mg "law" = some (.ref 412) := mg_of (KF_in KX) T.g (eq_of_beq (List.all_eq_true.mp H.q_glob ("law", .ref 412) (lookup_mem rfl)))
    have hfa : fa = 412 := by
      have h := hmg.symm.trans q
      injection h with h
      injection h
    clear hmg q
    subst hfa
    refine enter_call ?_
    exact br_call KX H T.g T.b T.builtins T.nolimit T.bmain hg (by assumption) (by assumption) (Nat.le_of_not_lt fun h => (by assumption : ¬ (63 : Int) < _) (Int.ofNat_lt.mpr h)) (fun _ => rfl) (by first | with_unfolding_all rfl | kernel_rfl | wrow_post)
end Mine
end
set_option maxRecDepth 100000 in
theorem PySem.Challenge.cw_jp0055_01_holds : PySem.Challenge.rw_jp0055_01.Holds := by
  exact Mine.fin
