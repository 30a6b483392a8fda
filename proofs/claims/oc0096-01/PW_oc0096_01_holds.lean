import PyProof.Rows.All
import Wide.All
import OpenK.AllK
import Wide.FinOn
import PySem.Challenge.RW_oc0096_01
set_option Elab.async false
set_option compiler.extract_closed false
local macro_rules | `(tactic| walk_at "zl") => `(tactic| first | assumption | (apply And.left; first | assumption | (apply And.right; first | assumption | (apply And.right; first | assumption | (apply And.right; first | assumption | (apply And.right; first | assumption | (apply And.right; first | assumption | (apply And.right; assumption))))))))
local macro_rules | `(tactic| omega) => `(tactic| first | with_reducible assumption | (refine Ne.symm ?_; with_reducible assumption) | exact Nat.le_trans (by assumption) (by decide +kernel) | exact Nat.lt_of_le_of_lt (by assumption) (by decide +kernel) | exact Nat.lt_of_le_of_lt (Nat.le_add_right _ _) (by assumption) | (apply Nat.ne_of_lt; walk_at "zl") | (apply Nat.ne_of_gt; walk_at "zl") | lia)
section -- Hd
open PySem PySem.W PyProof.Rows
local macro_rules | `({ scope := $_, locals := $_, globals := $_, cells := $_, code := $_, frame := $_ }) => Lean.Macro.throwError "at once"
namespace Mine
set_option maxRecDepth 100000 in
set_option maxHeartbeats 8000000 in
open_top hd for PySem.Challenge.rw_oc0096_01
end Mine
end
section -- Base
open PySem PySem.W PyProof.Rows PySem.Spec PySem.Calls
namespace Mine
noncomputable abbrev prog0 : Program := PySem.Challenge.rw_oc0096_01.row.prog

noncomputable abbrev adrs (l : List (Addr × Obj)) : List Addr := l.map (fun (q : Addr × Obj) => q.1)
/-- all of h stays in h', but at the addresses of l -/
noncomputable def Grow (l : List Addr) (h h' : Heap) : Prop := ∀ b o, h.get? b = some o → b ∉ l → h'.get? b = some o
theorem Grow.trans {l : List Addr} {h h' h'' : Heap} (a : Grow l h h') (b : Grow l h' h'') : Grow l h h'' := fun x o e n => b x o (a x o e n) n
theorem Grow.refl {l : List Addr} {h : Heap} : Grow l h h := fun _ _ e _ => e

theorem Grow.fresh {l : List Addr} {h g : Heap} {t : Addr} (G : Grow l h g) (e : g.get? t = none) (n : t ∉ l) : h.get? t = none := by
  cases q : h.get? t with
  | none => rfl
  | some o => rw [G t o q n] at e; cases e
theorem Grow.stays {h g : Heap} (G : Grow [] h g) : h.StaysIn g := fun b o e => G b o e (fun h => nomatch h)
noncomputable abbrev tupObj (l : List Value) : Obj := { cls := .type "tuple", data := .seq l.toArray }

section
variable {w : World} {A : Around} {s : Shared} {hb : Heap} {p : Program} {loose : List Str} {mean : ExcName → Option Value} {mg mb : Str → Option Value} {K : Frag} {news : List (Addr × Obj)}
  {R : Result → Shared → Prop} {name qual : Str} {params : Arguments} {body : List Stmt} {scope : Scope} {cl : List (Str × Addr)} {dV kV doc pm cdv ct oc : Value} {an od : Option Addr} {osl : Array (Option Value)} {f : Addr} {args : Args} {binds : List (Str × Value)}

theorem hide_stays (st : hb.StaysIn s.heap) (hn : ∀ q ∈ news, s.heap.get? q.1 = some q.2 ∧ hb.get? q.1 = none) : hb.StaysIn (hideAll s.heap (adrs news)) := fun b o e =>
  hideAll_get _ (st b o e) fun q => by
    obtain ⟨x, hx, rfl⟩ := List.mem_map.mp q
    rw [(hn x hx).2] at e; cases e

theorem enterX (st : hb.StaysIn s.heap) (X : K.In hb) (T : Top p loose mean mg mb hb) (hn : ∀ q ∈ news, s.heap.get? q.1 = some q.2 ∧ hb.get? q.1 = none)
    (ho : K.lookup f = some ⟨oc, od, .func (fnX name qual params body scope [] dV kV doc pm an cdv ct), osl⟩) (hcd : codeIn K cdv qual = true) (hroom : A.depth < recursionLimit)
    (hbind : BindsTo s (fnX name qual params body scope [] dV kV doc pm an cdv ct) args binds) (hloc : ∀ y ∈ binds, scope.names.lookup y.1 = some .local)
    (h : ∀ g L' h₁, Grow (adrs news) s.heap g → g.StaysIn s.heap → s.heap.objs.size ≤ L' → Fr g L' h₁ (fun y => binds.reverse.lookup y) → News g L' h₁ news → K.In g → Top p loose mean mg mb g → hb.StaysIn g →
      wpAny (model prog0 w) (A.deeper (envX qual scope L' f cdv [])) (execs body (envX qual scope L' f cdv []))
        (fun fl s' => R (.ok (.ret (match fl with | .ret v => v | _ => .none))) s')
        (fun e s' => wpAny (model prog0 w) (A.deeper (envX qual scope L' f cdv [])) (leaving (envX qual scope L' f cdv []) e) (fun _ s'' => R (.error e) s'') (fun e' s'' => R (.error e') s'') s')
        { s with heap := h₁, toks := s.toks + binds.length })
    (hcell : ∀ x ∈ scope.names, x.2 ≠ .cell) (hco : scope.isCoroutine = false) (hgen : scope.isGenerator = false) (hk : scope.kind = .function) : codeAny (model prog0 w) A (.call (.ref f) args) R s := by
  have sg := hide_stays st hn
  refine codeAny_call_def (fd := fnX name qual params body scope [] dV kV doc pm an cdv ct) (body := body) (binds := binds) hroom ((X.keeps st) _ _ ho) rfl (T.nolimit.keeps st) (codeRec_of (X.keeps st) hcd) rfl hbind hcell hloc (fun h₁ hns hk₁ => ?_) hco hgen hk
  exact h (hideAll s.heap (adrs news)) s.heap.objs.size h₁ (fun b o e n => hideAll_get _ e n) (fun b o e => of_hideAll _ e) (Nat.le_refl _) ⟨hns, fun b o e => hk₁ b o (of_hideAll _ e), Nat.le_of_eq (hideAll_size _ _)⟩
    (fun q hq => ⟨hk₁ _ _ (hn q hq).1, Nat.ne_of_lt (Heap.lt_size (hn q hq).1), hideAll_none _ (List.mem_map_of_mem hq)⟩) (X.keeps sg) (T.keeps sg) sg
end

end Mine
namespace Mine
section
variable {w : World} {A : Around} {s : Shared} {hb : Heap} {p : Program} {loose : List Str} {mean : ExcName → Option Value} {mg mb : Str → Option Value} {K : Frag} {news : List (Addr × Obj)}
  {R : Result → Shared → Prop} {name qual : Str} {params : Arguments} {body : List Stmt} {scope : Scope} {cl : List (Str × Addr)} {dV kV doc pm cdv ct oc : Value} {an od : Option Addr} {osl : Array (Option Value)} {f : Addr} {args : Args} {binds : List (Str × Value)}

theorem enterC (st : hb.StaysIn s.heap) (X : K.In hb) (T : Top p loose mean mg mb hb) (hn : ∀ q ∈ news, s.heap.get? q.1 = some q.2 ∧ hb.get? q.1 = none)
    (ho : K.lookup f = some ⟨oc, od, .func (fnX name qual params body scope [] dV kV doc pm an cdv ct), osl⟩) (hcd : codeIn K cdv qual = true) (hroom : A.depth < recursionLimit)
    (hbind : BindsTo s (fnX name qual params body scope [] dV kV doc pm an cdv ct) args binds) (hkind : (binds.all fun y => scope.names.lookup y.1 == some .local || scope.names.lookup y.1 == some .cell) = true)
    (hnd : ((cellsFrom 0 scope.names []).map (fun (q : Str × Addr) => q.1)).Nodup)
    (h : ∀ g L' h₁ tk cells, Grow (adrs news) s.heap g → g.StaysIn s.heap → s.heap.objs.size ≤ L' → Fr g L' h₁ (bindL (envOfC qual scope L' f cdv).kindOf binds fun _ => none) → News g L' h₁ (cells ++ news) →
      CellsAre (bindC (envOfC qual scope L' f cdv).kindOf binds fun _ => none) (cellsFrom (L' + 1) scope.names []) cells → K.In g → Top p loose mean mg mb g → hb.StaysIn g → (∀ q ∈ news, q.1 < L') →
      wpAny (model prog0 w) (A.deeper (envOfC qual scope L' f cdv)) (execs body (envOfC qual scope L' f cdv))
        (fun fl s' => R (.ok (.ret (match fl with | .ret v => v | _ => .none))) s')
        (fun e s' => wpAny (model prog0 w) (A.deeper (envOfC qual scope L' f cdv)) (leaving (envOfC qual scope L' f cdv) e) (fun _ s'' => R (.error e) s'') (fun e' s'' => R (.error e') s'') s')
        { s with heap := h₁, toks := tk })
    (hco : scope.isCoroutine = false) (hgen : scope.isGenerator = false) (hk : scope.kind = .function) : codeAny (model prog0 w) A (.call (.ref f) args) R s := by
  have sg := hide_stays st hn
  refine codeAny_call_function hroom ((X.keeps st) _ _ ho) rfl hco hgen rfl (codeRec_of (X.keeps st) hcd) (hbind _ _ _ _ ?_)
  refine wpAny_newFunctionEnv_cells hk (kindsX hkind _) fun env' he s' x => ?_
  subst he
  refine ⟨(T.nolimit.keeps st).keeps x.toInCall.keep, codeAny_func ?_⟩
  obtain ⟨h₁, tk, rfl, _⟩ := x.done
  have hk₁ := x.toInCall.keep
  obtain ⟨cells, NC, Y⟩ := Cl.news (h₀ := s.heap) (Nat.le_refl _) fun n c hm => ⟨x.cell n c (lookup_of_mem_nodup (cellsFrom_names scope.names 0 (s.heap.objs.size + 1) [] [] rfl ▸ hnd) hm), x.above n c hm⟩
  refine h (hideAll s.heap (adrs news)) s.heap.objs.size h₁ tk cells (fun b o e n => hideAll_get _ e n) (fun b o e => of_hideAll _ e) (Nat.le_refl _) ⟨x.toInCall.ns, fun b o e => hk₁ b o (of_hideAll _ e), Nat.le_of_eq (hideAll_size _ _)⟩ (fun q hp => ?_) Y (X.keeps sg) (T.keeps sg) sg (fun q hq => Heap.lt_size (hn q hq).1)
  rcases List.mem_append.mp hp with hp | hp
  · refine ⟨(NC q hp).1, (NC q hp).2.1, ?_⟩
    cases e : (hideAll s.heap (adrs news)).get? q.1 with
    | none => rfl
    | some o => have := of_hideAll _ e; rw [(NC q hp).2.2] at this; cases this
  · exact ⟨hk₁ _ _ (hn q hp).1, Nat.ne_of_lt (Heap.lt_size (hn q hp).1), hideAll_none _ (List.mem_map_of_mem hp)⟩

/-- a made def -/
theorem enterF {c' : Addr} {ctv : Value} (st : hb.StaysIn s.heap) (X : K.In hb) (T : Top p loose mean mg mb hb) (hn : ∀ q ∈ news, s.heap.get? q.1 = some q.2 ∧ hb.get? q.1 = none)
    (ho : s.heap.get? f = some (fnMade name qual params body scope cl doc pm c' ctv)) (hcd : s.heap.CodeRec (.ref c') qual) (hroom : A.depth < recursionLimit)
    (hbind : BindsTo s (fnX name qual params body scope cl .none .none doc pm none (.ref c') ctv) args binds) (hloc : ∀ y ∈ binds, scope.names.lookup y.1 = some .local)
    (h : ∀ g L' h₁, Grow (adrs news) s.heap g → g.StaysIn s.heap → s.heap.objs.size ≤ L' → Fr g L' h₁ (fun y => binds.reverse.lookup y) → News g L' h₁ news → K.In g → Top p loose mean mg mb g → hb.StaysIn g → (∀ q ∈ news, q.1 < L') →
      wpAny (model prog0 w) (A.deeper (envX qual scope L' f (.ref c') cl)) (execs body (envX qual scope L' f (.ref c') cl))
        (fun fl s' => R (.ok (.ret (match fl with | .ret v => v | _ => .none))) s')
        (fun e s' => wpAny (model prog0 w) (A.deeper (envX qual scope L' f (.ref c') cl)) (leaving (envX qual scope L' f (.ref c') cl) e) (fun _ s'' => R (.error e) s'') (fun e' s'' => R (.error e') s'') s')
        { s with heap := h₁, toks := s.toks + binds.length })
    (hcell : ∀ x ∈ scope.names, x.2 ≠ .cell) (hco : scope.isCoroutine = false) (hgen : scope.isGenerator = false) (hk : scope.kind = .function) : codeAny (model prog0 w) A (.call (.ref f) args) R s := by
  have sg := hide_stays st hn
  refine codeAny_call_def (fd := fnX name qual params body scope cl .none .none doc pm none (.ref c') ctv) (body := body) (binds := binds) hroom ho rfl (T.nolimit.keeps st) hcd rfl hbind hcell hloc (fun h₁ hns hk₁ => ?_) hco hgen hk
  exact h (hideAll s.heap (adrs news)) s.heap.objs.size h₁ (fun b o e n => hideAll_get _ e n) (fun b o e => of_hideAll _ e) (Nat.le_refl _) ⟨hns, fun b o e => hk₁ b o (of_hideAll _ e), Nat.le_of_eq (hideAll_size _ _)⟩
    (fun q hq => ⟨hk₁ _ _ (hn q hq).1, Nat.ne_of_lt (Heap.lt_size (hn q hq).1), hideAll_none _ (List.mem_map_of_mem hq)⟩) (X.keeps sg) (T.keeps sg) sg (fun q hq => Heap.lt_size (hn q hq).1)
end
end Mine

namespace Mine
/-- a side goal, kept from the walk -/
structure Hid (p : Prop) : Prop where
  out : p
section
variable {M : Model} {A : Around} {E : Value → Shared → Prop} {s : Shared} {h₀ : Heap} {L a : Addr} {m : Str → Option Value} {cn : Str} {cs : Scope} {ccd : Value} {cl : List (Str × Addr)}
  {x : Str} {pos : Pos} {v : Value} {Q : Value → Shared → Prop} {c : Addr} {o : Obj}
theorem nameFB (F : Fr h₀ L s.heap m) (hc : cl.lookup x = some c) (ho : h₀.get? c = some o) (hd : o.data = .cell (some v)) (h : Q v s)
    (hk : cs.kind = .function := by rfl) (hx : (envX cn cs L a ccd cl).kindOf x = some .free := by rfl) (hb : (x == ("__debug__" : Str)) = false := by decide) (hn : (x == ("__classdict__" : Str)) = false := by decide) :
    wpAny M A (eval (.Name x pos) (envX cn cs L a ccd cl)) Q E s := wpAny_Name (wpAny_loadName_free hk hx hc ⟨o, F.keep _ _ ho, hd⟩ h hn) hb
theorem fnAtB {q : Addr} {oc : Value} {od : Option Addr} {fd : FuncData} {sl : Array (Option Value)} {h : Heap} (F : Fr h₀ L h m) (e : h₀.get? q = some ⟨oc, od, .func fd, sl⟩) : FnAt q h := ⟨oc, od, fd, sl, F.keep _ _ e⟩
end
end Mine

namespace Mine
section
variable {w : World} {A : Around} {E : Value → Shared → Prop} {s : Shared} {a b n : Int} {t u : Tok} {Q : Value → Shared → Prop}
theorem rshift1 (h : ∀ v, v = a / 2 → Q (.int v s.toks) { s with toks := s.toks + 1 }) : wpAny (model prog0 w) A (binaryOp .RShift (.int a t) (.int 1 u)) Q E s :=
  rshift_int (by decide) (h _ (by show a.fdiv 2 = a / 2; rw [Int.fdiv_eq_ediv_of_nonneg _ (by decide)]))
theorem rshiftH (h0 : Hid (0 ≤ n)) (h : ∀ v, v = a / 2 ^ n.toNat → Q (.int v s.toks) { s with toks := s.toks + 1 }) : wpAny (model prog0 w) A (binaryOp .RShift (.int a t) (.int n u)) Q E s :=
  rshift_int h0.out (h _ (Int.fdiv_eq_ediv_of_nonneg _ (Int.pow_nonneg (by decide))))
theorem mulH (hm : Hid (IntMulOk a b)) (h : ∀ v, v = a * b → Q (.int v s.toks) { s with toks := s.toks + 1 }) : wpAny (model prog0 w) A (binaryOp .Mult (.int a t) (.int b u)) Q E s :=
  mul_int (h _ rfl) hm.out
theorem lshiftH (h0 : Hid (0 ≤ n)) (hz : Hid ((Builtin.Int.intBits a : Int) + n ≤ 2 ^ 27)) (h : ∀ v, v = a * 2 ^ n.toNat → Q (.int v s.toks) { s with toks := s.toks + 1 }) : wpAny (model prog0 w) A (binaryOp .LShift (.int a t) (.int n u)) Q E s :=
  lshift_int h0.out hz.out (h _ rfl)
end
noncomputable def fBody : Stmt → List Stmt
  | .FunctionDef _ _ b _ _ _ _ _ _ _ => b
  | _ => []
noncomputable def fScope : Stmt → Scope
  | .FunctionDef _ _ _ _ _ _ sc _ _ _ => sc
  | _ => default
noncomputable def fParams : Stmt → Arguments
  | .FunctionDef _ a _ _ _ _ _ _ _ _ => a
  | _ => default
noncomputable def sAt (l : List Stmt) (i : Nat) : Stmt := match l.drop i with
  | x :: _ => x
  | [] => .Pass default
noncomputable def d2iIn : Stmt := sAt (fBody (sAt prog0.main.body 6)) 0
noncomputable def i2dIn : Stmt := sAt (fBody (sAt prog0.main.body 5)) 1
end Mine

namespace Mine
theorem frStays {g h h' : Heap} {L : Addr} {m : Str → Option Value} (F : Fr g L h m) (st : h.StaysIn h') : Fr g L h' m := ⟨F.ns.keeps st, fun b o e => st b o (F.keep b o e), F.above⟩
theorem newsStays {g h h' : Heap} {L : Addr} {news : List (Addr × Obj)} (N : News g L h news) (st : h.StaysIn h') : News g L h' news := fun q hq => ⟨st _ _ (N q hq).1, (N q hq).2⟩
theorem codeRecStays {h h' : Heap} {v : Value} {q : Str} (c : h.CodeRec v q) (st : h.StaysIn h') : h'.CodeRec v q := c.keeps st
end Mine

namespace Mine
/-- the table at P of the defs that a def has made: empty, or one code -/
noncomputable def Tab (P : Addr) (line col : Nat) (qual : Str) (h : Heap) : Prop :=
  ∃ t, h.get? P = some (tabObj t) ∧ (t = #[] ∨ ∃ c', t = #[rawInt line, rawInt col, .ref c'] ∧ h.CodeRec (.ref c') qual)
noncomputable def qD : Str := (Str.ofString "_digits2int" ++ Str.ofString ".<locals>.") ++ Str.ofString "inner"
noncomputable def qI : Str := (Str.ofString "_int2digits" ++ Str.ofString ".<locals>.") ++ Str.ofString "inner"
noncomputable abbrev TabD (h : Heap) : Prop := Tab 44 50 4 qD h
noncomputable abbrev TabI (h : Heap) : Prop := Tab 37 35 4 qI h
theorem rec_ne {h : Heap} {line col : Int} {c P : Addr} {q : Str} (c0 : h.CodeRec (.ref c) q) (e : h.get? P = some (tabObj #[rawInt line, rawInt col, .ref c])) : c ≠ P := by
  rintro rfl
  obtain ⟨c1, oc, vs, t, e1, e2, e3, e4⟩ := c0
  cases e1
  rw [e] at e2; cases e2; cases e3
  simp [rawInt] at e4
theorem recGrow {l : List Addr} {h h' : Heap} {c : Addr} {q : Str} (c0 : h.CodeRec (.ref c) q) (G : Grow l h h') (n : c ∉ l) : h'.CodeRec (.ref c) q := by
  obtain ⟨c1, oc, vs, t, e1, e2, e3, e4⟩ := c0
  cases e1
  exact ⟨_, oc, vs, t, rfl, G _ _ e2 n, e3, e4⟩
end Mine

namespace Mine
theorem frGrow {g h h' : Heap} {L : Addr} {m : Str → Option Value} {l : List Addr} (F : Fr g L h m) (G : Grow l h h') (hl : ∀ a ∈ l, g.get? a = none ∧ a ≠ L) : Fr g L h' m := by
  refine ⟨?_, fun b o e => G b o (F.keep b o e) fun q => ?_, F.above⟩
  · obtain ⟨o, es, ep, e, r⟩ := F.ns
    exact ⟨o, es, ep, G _ _ e fun q => (hl _ q).2 rfl, r⟩
  · rw [(hl b q).1] at e; cases e
theorem newsGrow {g h h' : Heap} {L : Addr} {news : List (Addr × Obj)} {l : List Addr} (N : News g L h news) (G : Grow l h h') (hl : ∀ q ∈ news, q.1 ∉ l) : News g L h' news := fun q hq => ⟨G _ _ (N q hq).1 (hl q hq), (N q hq).2⟩
theorem newsOne {g h : Heap} {L a : Addr} {o : Obj} {news : List (Addr × Obj)} (N : News g L h news) (e : h.get? a = some o) (n1 : a ≠ L) (n2 : g.get? a = none) : News g L h ((a, o) :: news) := fun q hq => by
  rcases List.mem_cons.mp hq with rfl | hq
  · exact ⟨e, n1, n2⟩
  · exact N q hq
end Mine

namespace Mine
theorem nin1 {a b : Addr} (h : @Ne Nat a b) : a ∉ [b] := fun q => h (List.mem_singleton.mp q)
theorem nin2 {a b c : Addr} (h : @Ne Nat a b) (h' : @Ne Nat a c) : a ∉ [b, c] := fun q => by
  rcases List.mem_cons.mp q with q | q
  · exact h q
  · exact h' (List.mem_singleton.mp q)
end Mine

namespace Mine
theorem staysOf {h g h' : Heap} {L : Addr} {m : Str → Option Value} {news : List (Addr × Obj)} (G : Grow (adrs news) h g) (F : Fr g L h' m) (N : News g L h' news) (hn : ∀ q ∈ news, h.get? q.1 = some q.2) : h.StaysIn h' := fun b o e => by
  by_cases q : b ∈ adrs news
  · obtain ⟨x, hx, rfl⟩ := List.mem_map.mp q
    have h1 := hn x hx
    rw [e] at h1
    cases h1
    exact (N x hx).1
  · exact F.keep b o (G b o e q)
theorem recNot {h : Heap} {c P : Addr} {q : Str} {t : Array Value} {line col : Nat} {r : Str} (c0 : h.CodeRec (.ref c) q) (e : h.get? P = some (tabObj t)) (ht : t = #[] ∨ ∃ c', t = #[rawInt line, rawInt col, .ref c'] ∧ h.CodeRec (.ref c') r) : c ≠ P := by
  rintro rfl
  obtain ⟨c1, oc, vs, t, e1, e2, e3, e4⟩ := c0
  cases e1
  rw [e] at e2; cases e2; cases e3
  rcases ht with rfl | ⟨c', rfl, _⟩
  · simp at e4
  · simp [rawInt] at e4
theorem Tab.stays {P : Addr} {line col : Nat} {q : Str} {h h' : Heap} (t : Tab P line col q h) (st : h.StaysIn h') : Tab P line col q h' := by
  obtain ⟨t, e, ht⟩ := t
  refine ⟨t, st _ _ e, ?_⟩
  rcases ht with rfl | ⟨c', rfl, hc⟩
  · exact .inl rfl
  · exact .inr ⟨c', rfl, hc.keeps st⟩
theorem Tab.grow {P P' : Addr} {line col line' col' : Nat} {q q' : Str} {h h' : Heap} (t : Tab P line col q h) (t' : Tab P' line' col' q' h) (hne : P ≠ P') (G : Grow [P'] h h') : Tab P line col q h' := by
  obtain ⟨t, e, ht⟩ := t
  obtain ⟨t', e', ht'⟩ := t'
  refine ⟨t, G _ _ e (by simpa using hne), ?_⟩
  rcases ht with rfl | ⟨c', rfl, hc⟩
  · exact .inl rfl
  · exact .inr ⟨c', rfl, recGrow hc G (by simpa using recNot hc e' ht')⟩
theorem tabI_grow {h h' : Heap} (d : TabD h) (i : TabI h) (G : Grow [44] h h') : TabI h' := i.grow d (by decide) G
theorem tabD_grow {h h' : Heap} (d : TabD h) (i : TabI h) (G : Grow [37] h h') : TabD h' := d.grow i (by decide) G
theorem growMore {a : Addr} {l : List Addr} {h h' : Heap} (G : Grow [a] h h') (m : a ∈ l) : Grow l h h' := fun b o e n => G b o e fun q => n (List.mem_singleton.mp q ▸ m)
end Mine

namespace Mine
theorem tabExtra {P L : Addr} {line col : Nat} {q : Str} {g h : Heap} {m : Str → Option Value} (t : Tab P line col q h) (F : Fr g L h m) :
    ∃ t0 extra, h.get? P = some (tabObj t0) ∧ News g L h extra ∧ (∀ p ∈ extra, ∃ vs r k, p.2.data = .fields vs ∧ vs[1]? = some (.str r k)) ∧
      ∀ h', (∀ b o, g.get? b = some o → h'.get? b = some o) → News g L h' extra → h'.get? P = some (tabObj t0) → Tab P line col q h' := by
  obtain ⟨t, e, ht⟩ := t
  rcases ht with rfl | ⟨c, rfl, hc⟩
  · exact ⟨_, [], e, News.nil, fun _ h => (nomatch h), fun h' _ _ e' => ⟨_, e', .inl rfl⟩⟩
  · obtain ⟨c1, oc, vs, k, e1, e2, e3, e4⟩ := id hc
    cases e1
    cases hg : g.get? c with
    | some o =>
      refine ⟨_, [], e, News.nil, fun _ h => (nomatch h), fun h' kp _ e' => ⟨_, e', .inr ⟨c, rfl, ?_⟩⟩⟩
      have := F.keep _ _ hg
      rw [e2] at this; cases this
      exact ⟨c, oc, vs, k, rfl, kp _ _ hg, e3, e4⟩
    | none =>
      have hL : c ≠ L := by
        rintro rfl
        obtain ⟨o, es, ep, eo, hd, _⟩ := F.ns
        rw [e2] at eo; cases eo; rw [e3] at hd; cases hd
      refine ⟨_, [(c, oc)], e, newsOne News.nil e2 hL hg, fun p hp => ?_, fun h' _ N' e' => ⟨_, e', .inr ⟨c, rfl, ⟨c, oc, vs, k, rfl, N'.get (.head _), e3, e4⟩⟩⟩⟩
      rw [List.mem_singleton.mp hp]; exact ⟨vs, q, k, e3, e4⟩
end Mine

namespace Mine
theorem offI_of {I : Addr} {it : Obj} : ∀ {l : List (Addr × Obj)}, (∀ q ∈ l, q.1 ≠ I) → OffI I it l
  | [], _ => trivial
  | p :: _, h => ⟨.inl (h p (.head _)), offI_of fun q hq => h q (.tail _ hq)⟩
end Mine
end
section -- Num
open PySem PySem.W
namespace Mine
/-- the number whose digits, the least first, are l, by the base b -/
noncomputable def dval (b : Int) : List Int → Int
  | [] => 0
  | d :: r => d + b * dval b r
theorem dval_one (b d : Int) : dval b [d] = d := by simp [dval]
theorem dval_append (b : Int) : ∀ l r : List Int, dval b (l ++ r) = dval b l + b ^ l.length * dval b r
  | [], r => by simp [dval]
  | d :: l, r => by
    have := dval_append b l r
    simp only [List.cons_append, dval, this, List.length_cons, Int.pow_succ, Int.mul_add]
    rw [Int.mul_comm (b ^ l.length) b, Int.mul_assoc]
    omega
noncomputable abbrev seg (ns : List Int) (lo k : Nat) : List Int := (ns.drop lo).take k
theorem seg_split (ns : List Int) (lo : Nat) {i j k : Nat} (h : i + j = k) : seg ns lo k = seg ns lo i ++ seg ns (lo + i) j := by
  subst h
  unfold seg
  rw [List.take_add, List.drop_drop]
theorem seg_length {ns : List Int} {lo k : Nat} (h : lo + k ≤ ns.length) : (seg ns lo k).length = k := by
  unfold seg; rw [List.length_take, List.length_drop]; omega
theorem seg_one {ns : List Int} {lo : Nat} (h : lo < ns.length) : seg ns lo 1 = [ns.getD lo 0] := by
  unfold seg
  rw [List.drop_eq_getElem_cons h, List.take_succ_cons, List.take_zero, List.getD, List.getElem?_eq_getElem h]
  rfl
theorem seg_all (ns : List Int) : seg ns 0 ns.length = ns := by unfold seg; simp

theorem two_pow_pos (n : Nat) : (0 : Int) < 2 ^ n := Int.pow_pos (by decide)
theorem two_pow_le {m n : Nat} (h : m ≤ n) : (2 : Int) ^ m ≤ 2 ^ n := by
  have : (2 : Nat) ^ m ≤ 2 ^ n := Nat.pow_le_pow_right (by decide) h
  exact_mod_cast this
theorem dval_bounds (n B : Nat) : ∀ l : List Int, (∀ d ∈ l, 0 ≤ d ∧ d < 2 ^ B) → 0 ≤ dval (2 ^ n) l ∧ dval (2 ^ n) l < 2 ^ (B + (n + 1) * l.length)
  | [], _ => ⟨Int.le_refl _, two_pow_pos _⟩
  | d :: l, h => by
    obtain ⟨a, c⟩ := dval_bounds n B l fun x hx => h x (.tail _ hx)
    obtain ⟨d0, d1⟩ := h d (.head _)
    have p := two_pow_pos n
    refine ⟨Int.add_nonneg d0 (Int.mul_nonneg (Int.le_of_lt p) a), ?_⟩
    have e : B + (n + 1) * (d :: l).length = (n + (B + (n + 1) * l.length)) + 1 := by
      rw [List.length_cons, Nat.mul_add]; omega
    rw [e, Int.pow_succ, Int.pow_add]
    have h1 : (2 : Int) ^ n * dval (2 ^ n) l ≤ 2 ^ n * 2 ^ (B + (n + 1) * l.length) - 2 ^ n := by
      have := Int.mul_le_mul_of_nonneg_left (show dval (2 ^ n) l ≤ 2 ^ (B + (n + 1) * l.length) - 1 by omega) (Int.le_of_lt p)
      rw [Int.mul_sub, Int.mul_one] at this; exact this
    have h2 : (2 : Int) ^ B ≤ 2 ^ n * 2 ^ (B + (n + 1) * l.length) := by
      rw [← Int.pow_add]; exact two_pow_le (by omega)
    show d + 2 ^ n * dval (2 ^ n) l < _
    omega
open Builtin.Int in
theorem bits_of_lt {x : Int} {m : Nat} (h0 : 0 ≤ x) (h : x < 2 ^ m) : intBits x ≤ m := by
  refine intBits_le_iff.mpr ?_
  have : ((x.natAbs : Nat) : Int) < ((2 ^ m : Nat) : Int) := by
    rw [Int.natAbs_of_nonneg h0]; push_cast; exact h
  exact_mod_cast this

/-- k digits of x by the base b, the least first -/
noncomputable def digs (b : Int) : Int → Nat → List Int
  | _, 0 => []
  | x, k + 1 => x % b :: digs b (x / b) k
theorem digs_length (b : Int) : ∀ (k : Nat) (x : Int), (digs b x k).length = k
  | 0, _ => rfl
  | k + 1, x => by simp [digs, digs_length b k]
theorem digs_bounds {b : Int} (hb : 0 < b) : ∀ (k : Nat) (x : Int), ∀ d ∈ digs b x k, 0 ≤ d ∧ d < b
  | 0, _, _, h => nomatch h
  | k + 1, x, d, h => by
    rcases List.mem_cons.mp h with rfl | h
    · exact ⟨Int.emod_nonneg _ (by omega), Int.emod_lt_of_pos _ hb⟩
    · exact digs_bounds hb k _ d h
theorem digs_val {b : Int} (hb : 0 < b) : ∀ (k : Nat) (x : Int), 0 ≤ x → x < b ^ k → dval b (digs b x k) = x
  | 0, x, h0, h => by
    have : x = 0 := by rw [Int.pow_zero] at h; omega
    subst this; rfl
  | k + 1, x, h0, h => by
    have e := digs_val hb k (x / b) (Int.ediv_nonneg h0 (by omega)) (by
      rw [Int.pow_succ] at h
      exact Int.ediv_lt_of_lt_mul hb h)
    simp only [digs, dval, e]
    have := Int.emod_add_mul_ediv x b
    omega
theorem digs_split {b : Int} (hb : 0 < b) : ∀ (i j : Nat) (x : Int), digs b x (i + j) = digs b (x % b ^ i) i ++ digs b (x / b ^ i) j
  | 0, j, x => by simp [digs]
  | i + 1, j, x => by
    have e : i + 1 + j = (i + j) + 1 := by omega
    rw [e]
    simp only [digs, digs_split hb i j, List.cons_append]
    have hp : 0 < b ^ i := Int.pow_pos hb
    have e1 : x % b ^ (i + 1) % b = x % b := by
      rw [Int.pow_succ, Int.emod_emod_of_dvd]
      exact Int.dvd_mul_left _ _
    have e2 : x % b ^ (i + 1) / b = x / b % b ^ i := by
      rw [Int.pow_succ, Int.mul_comm]
      have h1 := Int.emod_add_mul_ediv x (b * b ^ i)
      have h2 := Int.emod_add_mul_ediv x b
      have h3 := Int.emod_add_mul_ediv (x / b) (b ^ i)
      have h4 : x / (b * b ^ i) = x / b / b ^ i := (Int.ediv_ediv_of_nonneg (by omega)).symm
      have h5 : x % (b * b ^ i) = x % b + b * (x / b % b ^ i) := by
        rw [h4, Int.mul_assoc] at h1
        have : b * (x / b) = b * (x / b % b ^ i) + b * (b ^ i * (x / b / b ^ i)) := by rw [← Int.mul_add, h3]
        omega
      rw [h5, Int.add_mul_ediv_left _ _ (by omega), Int.ediv_eq_zero_of_lt (Int.emod_nonneg _ (by omega)) (Int.emod_lt_of_pos _ hb)]
      omega
    have e3 : x / b / b ^ i = x / b ^ (i + 1) := by
      rw [Int.pow_succ, Int.mul_comm, Int.ediv_ediv_of_nonneg (by omega)]
    rw [e1, e2, e3]

theorem bitAnd_nat (x y : Nat) : Builtin.bitAnd (x : Int) (y : Int) = ((x &&& y : Nat) : Int) := by rfl
theorem and_high (x m : Nat) : x &&& (x / 2 ^ m * 2 ^ m) = x / 2 ^ m * 2 ^ m := by
  apply Nat.eq_of_testBit_eq
  intro i
  rw [Nat.testBit_and, Nat.testBit_mul_two_pow, Nat.testBit_div_two_pow]
  by_cases h : m ≤ i
  · simp [h, Nat.add_sub_cancel' h, Nat.sub_add_cancel h]
  · simp [h]
theorem xor_low {x : Int} (h : 0 ≤ x) (m : Nat) : Builtin.bitXor x (x / 2 ^ m * 2 ^ m) = x % 2 ^ m := by
  obtain ⟨n, rfl⟩ := Int.eq_ofNat_of_zero_le h
  have e : ((n : Int) / 2 ^ m * 2 ^ m) = ((n / 2 ^ m * 2 ^ m : Nat) : Int) := by push_cast; rfl
  rw [PyProof.Rows.bitXor_and, e, bitAnd_nat, and_high, ← e]
  have := Int.emod_add_mul_ediv (n : Int) (2 ^ m)
  rw [Int.mul_comm] at this
  omega
theorem digs_one {b x : Int} (h0 : 0 ≤ x) (h1 : x < b) : digs b x 1 = [x] := by
  simp only [digs, Int.emod_eq_of_lt h0 h1]
theorem set_mid (ns : List Int) (lo : Nat) (x : Int) (h : lo < ns.length) : ns.set lo x = ns.take lo ++ ([x] ++ ns.drop (lo + 1)) := by
  rw [List.set_eq_take_append_cons_drop, if_pos h]; rfl
theorem mid_mid (ns a b : List Int) {lo i j : Nat} (ha : a.length = i) (hb : b.length = j) (h : lo + i + j ≤ ns.length) :
    (ns.take lo ++ (a ++ ns.drop (lo + i))).take (lo + i) ++ (b ++ (ns.take lo ++ (a ++ ns.drop (lo + i))).drop (lo + i + j)) = ns.take lo ++ ((a ++ b) ++ ns.drop (lo + i + j)) := by
  have e1 : (ns.take lo ++ (a ++ ns.drop (lo + i))) = (ns.take lo ++ a) ++ ns.drop (lo + i) := by rw [List.append_assoc]
  have l1 : (ns.take lo ++ a).length = lo + i := by rw [List.length_append, List.length_take, ha]; omega
  have e2 : ((ns.take lo ++ a) ++ ns.drop (lo + i)).take (lo + i) = ns.take lo ++ a := by rw [← l1, List.take_left]
  have e3 : ((ns.take lo ++ a) ++ ns.drop (lo + i)).drop (lo + i + j) = ns.drop (lo + i + j) := by
    rw [← List.drop_drop, ← l1, List.drop_left, l1, List.drop_drop]
  rw [e1, e2, e3]
  simp only [List.append_assoc]
theorem pow_split {n : Nat} {x : Int} {i k : Nat} (h0 : 0 ≤ x) (h1 : x < (2 ^ n) ^ k) (hi : i ≤ k) : 0 ≤ x / 2 ^ (i * n) ∧ x / 2 ^ (i * n) < (2 ^ n) ^ (k - i) ∧ 0 ≤ x % 2 ^ (i * n) ∧ x % 2 ^ (i * n) < (2 ^ n) ^ i := by
  have p : (0 : Int) < 2 ^ (i * n) := two_pow_pos _
  have e : ((2 : Int) ^ n) ^ i = 2 ^ (i * n) := by rw [← Int.pow_mul, Nat.mul_comm]
  refine ⟨Int.ediv_nonneg h0 (Int.le_of_lt p), ?_, Int.emod_nonneg _ (Int.ne_of_gt p), ?_⟩
  · refine Int.ediv_lt_of_lt_mul p ?_
    rw [← e, ← Int.pow_add, Nat.sub_add_cancel hi]
    exact h1
  · rw [e]; exact Int.emod_lt_of_pos _ p

theorem intsRep (d : Nat) (x : Int) (t : Tok) : PyProof.Rows.IntsAre (List.replicate d (Value.int x t)) (List.replicate d x) := by
  induction d with
  | zero => exact PyProof.Rows.IntsAre.nil
  | succ d ih => exact PyProof.Rows.IntsAre.cons _ _ ih
/-- how many digits by 2 ^ n a number of so many bits has -/
noncomputable def nDigs (bits n : Nat) : Nat := (bits + n - 1) / n
theorem nDigs_eq (bits n : Nat) (h : 1 ≤ n) : ((bits : Int) + n - 1).fdiv n = (nDigs bits n : Nat) := by
  have e : ((bits : Int) + n - 1) = ((bits + n - 1 : Nat) : Int) := by omega
  rw [e, Int.fdiv_eq_ediv_of_nonneg _ (by omega)]
  rfl
theorem nDigs_le {bits n : Nat} (h : 1 ≤ n) : nDigs bits n ≤ bits := by
  unfold nDigs
  cases bits with
  | zero => rw [Nat.div_eq_of_lt (by omega)]; exact Nat.le_refl _
  | succ b =>
    refine Nat.div_le_of_le_mul ?_
    have : b + n ≤ n * (b + 1) := by
      rw [Nat.mul_add, Nat.mul_one]
      have := Nat.le_mul_of_pos_left b h
      omega
    omega
theorem nDigs_ge {bits n : Nat} (h : 1 ≤ n) : bits ≤ n * nDigs bits n := by
  unfold nDigs
  have h1 := Nat.div_add_mod (bits + n - 1) n
  have h2 := Nat.mod_lt (bits + n - 1) h
  omega
theorem nDigs_pos {bits n : Nat} (h : 1 ≤ n) (hb : 1 ≤ bits) : 1 ≤ nDigs bits n := by
  unfold nDigs
  exact (Nat.le_div_iff_mul_le h).mpr (by omega)
open Builtin.Int in
theorem lt_of_bits {x : Int} (h0 : 0 ≤ x) {m : Nat} (h : intBits x ≤ m) : x < 2 ^ m := by
  have := intBits_le_iff.mp h
  have e : ((x.natAbs : Nat) : Int) < ((2 ^ m : Nat) : Int) := by exact_mod_cast this
  rw [Int.natAbs_of_nonneg h0] at e
  push_cast at e; exact e
structure Halves (k lo N : Nat) : Prop where
  f1 : k / 2 < k
  f2 : k - k / 2 < k
  f3 : 1 ≤ k / 2
  f4 : 1 ≤ k - k / 2
  f5 : k / 2 ≤ k
  f6 : k / 2 + (k - k / 2) = k
  f7 : lo + k / 2 + (k - k / 2) = lo + k
  f8 : lo + k / 2 + (k - k / 2) ≤ N
  f9 : lo + k / 2 ≤ N
theorem halves {k lo N : Nat} (h : 2 ≤ k) (hle : lo + k ≤ N) : Halves k lo N :=
  ⟨by omega, by omega, by omega, by omega, by omega, by omega, by omega, by omega, by omega⟩
structure Mids (a b mid : Int) (lo k : Nat) : Prop where
  g1 : mid - a = ((k / 2 : Nat) : Int)
  g2 : mid = ((lo + k / 2 : Nat) : Int)
  g3 : mid = (lo : Int) + ((k / 2 : Nat) : Int)
  g4 : b = ((lo + k / 2 : Nat) : Int) + ((k - k / 2 : Nat) : Int)
  g5 : 0 ≤ ((k / 2 : Nat) : Int)
theorem mids {a b mid : Int} {lo k : Nat} (ha : a = lo) (hb : b = lo + k) (hk : 2 ≤ k) (hm : mid = (a + b) / 2) : Mids a b mid lo k :=
  ⟨by omega, by omega, by omega, by omega, by omega⟩
theorem two_of {a b : Int} {lo k : Nat} (ha : a = lo) (hb : b = lo + k) (hk : 1 ≤ k) (h : a + 1 ≠ b) : 2 ≤ k := by omega
end Mine
end
section -- Loops
open PySem PySem.W PyProof.Rows PySem.Spec PySem.Calls
namespace Mine
noncomputable abbrev Mp := Str → Option Value
theorem unrMono {h₀ : Heap} {L I : Addr} {s₁ : Shared} {it : Obj} {r r' : Mp → List (Addr × Obj) → Prop} {Q : Flow → Shared → Prop} (H : ∀ m n, r m n → r' m n) (f : Flow) (s₂ : Shared) (h : UnrPost h₀ L s₁ I it r Q f s₂) : UnrPost h₀ L s₁ I it r' Q f s₂ := by
  cases f with
  | ret v => exact h
  | brk => exact h
  | next => obtain ⟨h', tk, m', n', e, F, N, o, x⟩ := h; exact ⟨h', tk, m', n', e, F, N, o, H _ _ x⟩
  | cont => obtain ⟨h', tk, m', n', e, F, N, o, x⟩ := h; exact ⟨h', tk, m', n', e, F, N, o, H _ _ x⟩
section
variable {w : World} {A : Around} {E : Value → Shared → Prop} {s : Shared} {env : Env} {h₀ : Heap} {x : Str} {body : List Stmt} {Q : Flow → Shared → Prop} {I : Addr} {lp : Addr × Obj}
theorem revInd (Inv : List Value → Mp → List (Addr × Obj) → Prop)
    (done : ∀ m news, Inv [] m news → ∀ h tk, Fr h₀ env.locals h m → News h₀ env.locals h news → Q .next { s with heap := h, toks := tk })
    (step : ∀ v r m news, Inv (v :: r) m news → ∀ (it : Obj) h tk, it.cls = .type "list_reverseiterator" → Fr h₀ env.locals h (fun y => if y = x then some v else m y) → News h₀ env.locals h ((I, it) :: news) →
      wpAny (model prog0 w) A (execs body env) (UnrPost h₀ env.locals { s with heap := h, toks := tk } I it (fun m' n' => lp ∈ n' ∧ Inv r m' n') Q) E { s with heap := h, toks := tk }) :
    ∀ r m news, Inv r m news → RevRest prog0 w A E h₀ env x body Q s I lp r m news
  | [], m, news, h => done m news h
  | v :: r, m, news, h => fun it h1 tk hc F N => wpAny_mono (step v r m news h it h1 tk hc F N) (unrMono fun m' n' y => ⟨y.1, revInd Inv done step r m' n' y.2⟩) fun _ _ e => e
theorem listInd (Inv : List Value → Mp → List (Addr × Obj) → Prop)
    (done : ∀ m news, Inv [] m news → ∀ h tk, Fr h₀ env.locals h m → News h₀ env.locals h news → Q .next { s with heap := h, toks := tk })
    (step : ∀ v r m news, Inv (v :: r) m news → ∀ (it : Obj) h tk, it.cls = .type "list_iterator" → Fr h₀ env.locals h (fun y => if y = x then some v else m y) → News h₀ env.locals h ((I, it) :: news) →
      wpAny (model prog0 w) A (execs body env) (UnrPost h₀ env.locals { s with heap := h, toks := tk } I it (fun m' n' => lp ∈ n' ∧ Inv r m' n') Q) E { s with heap := h, toks := tk }) :
    ∀ r m news, Inv r m news → ListRest prog0 w A E h₀ env x body Q s I lp r m news
  | [], m, news, h => done m news h
  | v :: r, m, news, h => fun it h1 tk hc F N => wpAny_mono (step v r m news h it h1 tk hc F N) (unrMono fun m' n' y => ⟨y.1, listInd Inv done step r m' n' y.2⟩) fun _ _ e => e
theorem bytesInd (Inv : List Int → Mp → List (Addr × Obj) → Prop)
    (done : ∀ m news, Inv [] m news → ∀ h tk, Fr h₀ env.locals h m → News h₀ env.locals h news → Q .next { s with heap := h, toks := tk })
    (step : ∀ c r m news, Inv (c :: r) m news → 0 ≤ c → c < 256 → ∀ (u : Tok) (it : Obj) h tk, Fr h₀ env.locals h (fun y => if y = x then some (.int c u) else m y) → News h₀ env.locals h ((I, it) :: news) →
      wpAny (model prog0 w) A (execs body env) (UnrPost h₀ env.locals { s with heap := h, toks := tk } I it (Inv r) Q) E { s with heap := h, toks := tk }) :
    ∀ r m news, Inv r m news → BytesRest prog0 w A E h₀ env x body Q s I r m news
  | [], m, news, h => done m news h
  | c :: r, m, news, h => fun c0 c1 u it h1 tk F N => wpAny_mono (step c r m news h c0 c1 u it h1 tk F N) (unrMono fun m' n' y => bytesInd Inv done step r m' n' y) fun _ _ e => e
theorem rangeInd {a : Int} {n : Nat} (Inv : Nat → Mp → List (Addr × Obj) → Prop)
    (done : ∀ m news, Inv n m news → ∀ h tk, Fr h₀ env.locals h m → News h₀ env.locals h news → Q .next { s with heap := h, toks := tk })
    (step : ∀ i m news, i < n → Inv i m news → ∀ t h tk, Fr h₀ env.locals h (fun y => if y = x then some (.int (a + (i : Int)) t) else m y) → News h₀ env.locals h ((I, itR (a + ((i + 1 : Nat) : Int)) ((n : Int) - ((i + 1 : Nat) : Int))) :: news) →
      wpAny (model prog0 w) A (execs body env) (UnrPost h₀ env.locals { s with heap := h, toks := tk } I (itR (a + ((i + 1 : Nat) : Int)) ((n : Int) - ((i + 1 : Nat) : Int))) (Inv (i + 1)) Q) E { s with heap := h, toks := tk }) :
    ∀ k i m news, i + k = n → Inv i m news → RangeRest prog0 w A E h₀ env x body Q s I a n k i m news
  | 0, i, m, news, e, h => done m news (by have : i = n := by omega
                                           exact this ▸ h)
  | k + 1, i, m, news, e, h => fun t h1 tk F N => wpAny_mono (step i m news (by omega) h t h1 tk F N) (unrMono fun m' n' y => rangeInd Inv done step k (i + 1) m' n' (by omega) y) fun _ _ e => e
end
end Mine
namespace Mine
noncomputable def WPost (Inv : Nat → Shared → Prop) (Q : Flow → Shared → Prop) (k : Nat) (f : Flow) (s : Shared) : Prop := match f with
  | .next => ∃ k', k' < k ∧ Inv k' s
  | .cont => ∃ k', k' < k ∧ Inv k' s
  | .brk => Q .next s
  | .ret v => Q (.ret v) s
section
variable {w : World} {A : Around} {E : Value → Shared → Prop} {env : Env} {test : PySem.Expr} {body orelse : List Stmt} {Q : Flow → Shared → Prop}
theorem whlInd (hE : PassesOwn (model prog0 w) A env E) (Inv : Nat → Shared → Prop)
    (turn : ∀ k s, Inv k s → wpAny (model prog0 w) A (isTrue test env (eval test env)) (fun b s₂ => WhlIf b (wpAny (model prog0 w) A (execs body env) (WPost Inv Q k) E s₂) (wpAny (model prog0 w) A (execs orelse env) Q E s₂)) E s) :
    ∀ k s, Inv k s → WhlRest prog0 w A E env test body orelse Q 0 s := by
  intro k
  induction k using Nat.strongRecOn with
  | ind k IH =>
  intro s h
  refine whl_turn (k := 0) hE (wpAny_mono (turn k s h) (fun b s₂ h₂ => ?_) fun _ _ e => e)
  cases b with
  | false => exact h₂
  | true =>
    refine wpAny_mono (show wpAny _ _ _ (WPost Inv Q k) _ _ from h₂) (fun f s₃ h₃ => ?_) fun _ _ e => e
    cases f with
    | next => obtain ⟨k', hk, hi⟩ := h₃; exact IH k' hk s₃ hi
    | cont => obtain ⟨k', hk, hi⟩ := h₃; exact IH k' hk s₃ hi
    | brk => exact h₃
    | ret v => exact h₃
end
theorem opq {t : Type} {M : Model} {A : Around} {c : Sem t} {Q : t → Shared → Prop} {E : Value → Shared → Prop} {s : Shared} (h : ∀ Q' : t → Shared → Prop, (∀ v s, Q v s → Q' v s) → wpAny M A c Q' E s) : wpAny M A c Q E s := h Q fun _ _ h => h
theorem whlIndQ {w : World} {A : Around} {E : Value → Shared → Prop} {env : Env} {test : PySem.Expr} {body orelse : List Stmt} {Q : Flow → Shared → Prop} (hE : PassesOwn (model prog0 w) A env E) (Inv : Nat → Shared → Prop)
    (turn : ∀ k s, Inv k s → ∀ P Q' : Flow → Shared → Prop, (∀ f s, WPost Inv Q k f s → P f s) → (∀ f s, Q f s → Q' f s) → wpAny (model prog0 w) A (isTrue test env (eval test env)) (fun b s₂ => WhlIf b (wpAny (model prog0 w) A (execs body env) P E s₂) (wpAny (model prog0 w) A (execs orelse env) Q' E s₂)) E s) :
    ∀ k s, Inv k s → WhlRest prog0 w A E env test body orelse Q 0 s :=
  whlInd hE Inv fun k s h => turn k s h _ _ (fun _ _ h => h) fun _ _ h => h
theorem whlHid {w : World} {A : Around} {E : Value → Shared → Prop} {env : Env} {test : PySem.Expr} {body orelse : List Stmt} {Q : Flow → Shared → Prop} {s : Shared} {pos : Pos} (h : Hid (WhlRest prog0 w A E env test body orelse Q 0 s)) : wpAny (model prog0 w) A (exec (.While test body orelse pos) env) Q E s := whl_start 0 h.out
section
variable {w : World} {A : Around} {E : Value → Shared → Prop} {s : Shared} {value slice : Expr} {a : Addr} {l : List Value} {k : Int} {u : Tok} {x : Value} {Q : Value → Shared → Prop}
theorem subBack (hl : s.heap.IsList a l.toArray) (h0 : k < 0) (h1 : -(l.length : Int) ≤ k) (hfit : -(2 ^ 63) ≤ k) (hx : l[(k + (l.length : Int)).toNat]? = some x) (h : Q x s)
    (hs : subscripted slice false (.ref a) (.int k u) = operate [.ref a, .int k u] (getItem (.ref a) (.int k u)) := by with_unfolding_all rfl) (hg : ∀ r, letTemporaryGo value (.ref a) r = pure () := by intro _; with_unfolding_all rfl) :
    wpAny (model prog0 w) A (subscriptTail value slice (.ref a) (.int k u)) Q E s :=
  subscriptTail_builtin hl.typeIs slot_list_getitem.lookup (wpAny_getItem_list_neg hl h0 (by rw [List.size_toArray]; exact h1) hfit (by rw [List.size_toArray]; simpa using hx) h) hs hg
theorem subBack1 {rf : List Value} {p c : Value} (hl : s.heap.IsList a (rf ++ [p, c]).toArray) (h : Q c s)
    (hs : subscripted slice false (.ref a) (.int (-1) u) = operate [.ref a, .int (-1) u] (getItem (.ref a) (.int (-1) u)) := by with_unfolding_all rfl) (hg : ∀ r, letTemporaryGo value (.ref a) r = pure () := by intro _; with_unfolding_all rfl) :
    wpAny (model prog0 w) A (subscriptTail value slice (.ref a) (.int (-1) u)) Q E s := by
  refine subBack hl (by decide) (by simp; omega) (by decide) ?_ h hs hg
  have e : ((-1 : Int) + ((rf ++ [p, c]).length : Int)).toNat = rf.length + 1 := by simp; omega
  rw [e, List.getElem?_append_right (by omega)]
  simp
theorem subBack2 {rf : List Value} {p c : Value} (hl : s.heap.IsList a (rf ++ [p, c]).toArray) (h : Q p s)
    (hs : subscripted slice false (.ref a) (.int (-2) u) = operate [.ref a, .int (-2) u] (getItem (.ref a) (.int (-2) u)) := by with_unfolding_all rfl) (hg : ∀ r, letTemporaryGo value (.ref a) r = pure () := by intro _; with_unfolding_all rfl) :
    wpAny (model prog0 w) A (subscriptTail value slice (.ref a) (.int (-2) u)) Q E s := by
  refine subBack hl (by decide) (by simp; omega) (by decide) ?_ h hs hg
  have e : ((-2 : Int) + ((rf ++ [p, c]).length : Int)).toNat = rf.length := by simp; omega
  rw [e, List.getElem?_append_right (by omega)]
  simp
end
end Mine

namespace Mine
theorem range_small (n : Nat) (h : n ≤ 1000 := by omega) : Builtin.Range.small 0 (n : Int) 1 = true := by
  exact small_one (by omega) (by omega) (by omega) (by omega)
theorem range_size (n : Nat) : Builtin.Range.rangeSize 0 (n : Int) 1 = (n : Int) := by
  unfold Builtin.Range.rangeSize
  simp
  omega
end Mine

namespace Mine
theorem modH {w : World} {A : Around} {E : Value → Shared → Prop} {s : Shared} {a b : Int} {t u : Tok} {Q : Value → Shared → Prop} (h0 : 0 < b) (h : ∀ v, v = a % b → 0 ≤ v → v < b → Q (.int v s.toks) { s with toks := s.toks + 1 }) : wpAny (model prog0 w) A (binaryOp .Mod (.int a t) (.int b u)) Q E s :=
  mod_int (by omega) (h _ (Int.fmod_eq_emod_of_nonneg _ (Int.le_of_lt h0)) (by rw [Int.fmod_eq_emod_of_nonneg _ (Int.le_of_lt h0)]; exact Int.emod_nonneg _ (by omega)) (by rw [Int.fmod_eq_emod_of_nonneg _ (Int.le_of_lt h0)]; exact Int.emod_lt_of_pos _ h0))
end Mine
end
section -- Plain
namespace Mine
/-- what comes of one row of quotients -/
inductive RowRes where
  | bad
  | zero
  | row (l : List Int)
noncomputable def rowX (n : Nat) (cur : List Int) (i : Nat) : Int := cur.getD i 0 * cur.getD ((i + 1) % n) 0 - 1
noncomputable def rowY (n : Nat) (prev : List Int) (i : Nat) : Int := prev.getD ((i + 1) % n) 0
noncomputable def rowL (n : Nat) (prev cur : List Int) : Nat → Nat → List Int → RowRes
  | 0, _, acc => .row acc
  | k + 1, i, acc =>
    if rowX n cur i % rowY n prev i ≠ 0 then .bad
    else if rowX n cur i / rowY n prev i = 0 then .zero
    else rowL n prev cur k (i + 1) (acc ++ [rowX n cur i / rowY n prev i])
/-- the run: the rows, the last two apart -/
noncomputable def runL (n : Nat) : Nat → List (List Int) → List Int → List Int → Option (List (List Int))
  | 0, pre, prev, cur => some (pre ++ [prev, cur])
  | k + 1, pre, prev, cur => match rowL n prev cur n 0 [] with
    | .bad => none
    | .zero => some (pre ++ [prev, cur])
    | .row l => runL n k (pre ++ [prev]) cur l
noncomputable def runOf (ring : List Int) : Option (List (List Int)) := runL ring.length (ring.length - 3) [] (List.replicate ring.length 1) ring

/-- the place ahead of k, round a list of n -/
noncomputable def ahead (n k : Nat) : Nat := if k = 0 then n - 1 else k - 1
noncomputable def cutPair (cs : List Int) (n k : Nat) : Int :=
  8 * min (cs.getD (ahead n k) 0) (cs.getD ((k + 1) % n) 0) + max (cs.getD (ahead n k) 0) (cs.getD ((k + 1) % n) 0)
noncomputable def cutCounts (ns : List Int) (k : Nat) : List Int :=
  let ms := (ns.set (ahead ns.length k) (ns.getD (ahead ns.length k) 0 - 1)).set ((k + 1) % ns.length) (ns.getD ((k + 1) % ns.length) 0 - 1)
  ms.take k ++ ms.drop (k + 1)
noncomputable def cutL : Nat → List Int → List Int → List Int → Option (List Int)
  | 0, _, ns, js => if ns = [1, 1, 1] then some js else none
  | f + 1, cs, ns, js =>
    if 3 < ns.length ∧ 1 ∈ ns then cutL f (cs.take (ns.idxOf 1) ++ cs.drop (ns.idxOf 1 + 1)) (cutCounts ns (ns.idxOf 1)) (js ++ [cutPair cs ns.length (ns.idxOf 1)])
    else if ns = [1, 1, 1] then some js else none
noncomputable def cutOf (ring : List Int) : Option (List Int) := cutL (ring.length - 3) ((List.range ring.length).map fun (i : Nat) => (i : Int)) ring []
end Mine
namespace Mine
noncomputable def onePair (n r i : Nat) : Int := 8 * min (((i : Int) - 1) % n) (((i : Int) + r) % n) + max (((i : Int) - 1) % n) (((i : Int) + r) % n)
noncomputable def onesRow (n : Nat) (row : List Int) (r : Nat) : Nat → Nat → List Int → List Int
  | 0, _, acc => acc
  | k + 1, i, acc => onesRow n row r k (i + 1) (if row.getD i 0 = 1 then acc ++ [onePair n r i] else acc)
noncomputable def onesRows (n : Nat) (rows : List (List Int)) : Nat → Nat → List Int → List Int
  | 0, _, acc => acc
  | k + 1, r, acc => onesRows n rows k (r + 1) (onesRow n (rows.getD r []) r n 0 acc)
noncomputable def onesL (n : Nat) (rows : List (List Int)) : List Int := onesRows n rows (n - 3) 1 []
/-- one more number in the ring -/
noncomputable def ringStep (ring : List Int) (x : Int) : List Int :=
  let n := ring.length
  let k := (x % n).toNat
  let told := x / 8 % 16
  let r1 := ring.set (ahead n k) (ring.getD (ahead n k) 0 + if told > 13 then 0 else 1)
  let r2 := r1.set k (r1.getD k 0 + if 11 < told ∧ told < 14 then 0 else 1)
  r2.take k ++ [if 7 < told ∧ told < 12 then told - 6 else 1] ++ r2.drop k
noncomputable def ringOf (nums : List Int) : List Int := nums.foldl ringStep [1, 1, 1]
end Mine
namespace Mine
/-- the first place from i on (fuel many) whose number is not x -/
noncomputable def skipF (l : List Int) (x : Int) : Nat → Nat → Nat
  | 0, i => i
  | f + 1, i => if i < l.length ∧ l.getD i 0 = x then skipF l x f (i + 1) else i
noncomputable def skp (l : List Int) (x : Int) (i : Nat) : Nat := skipF l x (l.length - i) i
noncomputable def sldL (es as : List Int) : Nat → Nat → Nat → List Int → List Int → List Int × List Int
  | 0, i, j, mis, une => (mis ++ es.drop i, une ++ as.drop j)
  | f + 1, i, j, mis, une =>
    if i < es.length ∧ j < as.length then
      if es.getD i 0 < as.getD j 0 then sldL es as f (skp es (es.getD i 0) (i + 1)) j (mis ++ [es.getD i 0]) une
      else if as.getD j 0 < es.getD i 0 then sldL es as f i (skp as (as.getD j 0) (j + 1)) mis (une ++ [as.getD j 0])
      else sldL es as f (skp es (es.getD i 0) (i + 1)) (skp as (as.getD j 0) (j + 1)) mis une
    else (mis ++ es.drop i, une ++ as.drop j)
noncomputable def sldOf (es as : List Int) : List Int × List Int := sldL es as (es.length + as.length) 0 0 [] []
theorem skp_step {l : List Int} {x : Int} {i : Nat} : skp l x i = if i < l.length ∧ l.getD i 0 = x then skp l x (i + 1) else i := by
  unfold skp
  by_cases h : i < l.length
  · rw [show l.length - i = (l.length - (i + 1)) + 1 by omega]
    rfl
  · rw [show l.length - i = 0 by omega, if_neg fun q => h q.1]
    rfl
theorem skipF_le {l : List Int} {x : Int} : ∀ f i, i ≤ skipF l x f i
  | 0, _ => Nat.le_refl _
  | f + 1, i => by
    show i ≤ if _ then _ else _
    split
    · exact Nat.le_trans (Nat.le_succ i) (skipF_le f (i + 1))
    · exact Nat.le_refl _
theorem skp_le {l : List Int} {x : Int} {i : Nat} : i ≤ skp l x i := skipF_le _ _
end Mine
namespace Mine
/-- the sign of k -/
noncomputable def b64T (k : Int) : Int := if k < 26 then 65 + k else if k < 52 then 71 + k else if k < 62 then k - 4 else if k = 62 then 43 else 47
noncomputable def b64F : List Int → Int → Int → List Int → List Int
  | [], lb, lc, out => if lb = 2 then out ++ [b64T (lc % 4 * 16), 61, 61] else if lb = 4 then out ++ [b64T (lc % 16 * 4), 61] else out
  | b :: r, lb, lc, out =>
    if lb = 0 then b64F r 2 ((lc * 256 + b) % 65536) (out ++ [b64T ((lc * 256 + b) % 65536 / 4 % 64)])
    else if lb = 2 then b64F r 4 ((lc * 256 + b) % 65536) (out ++ [b64T ((lc * 256 + b) % 65536 / 16 % 64)])
    else b64F r 0 ((lc * 256 + b) % 65536) (out ++ [b64T ((lc * 256 + b) % 65536 / 64 % 64), b64T ((lc * 256 + b) % 65536 % 64)])
noncomputable def b64Of (bs : List Int) : List Int := b64F bs 0 0 []
end Mine
namespace Mine
noncomputable def numOf (ps : List Int) : Int := ps.foldl (fun n x => 64 * n + x) 0
end Mine
namespace Mine
noncomputable def pairsOf (n : Nat) : List Int := (List.range n).flatMap fun i => ((List.range (n - (i + 2))).map fun j => i + 2 + j).filterMap fun (j : Nat) => if (j : Int) - i ≠ (n : Int) - 1 then some (8 * (i : Int) + (j : Int)) else none
noncomputable def dueOf (n : Nat) (js : List Int) : List Int := (pairsOf n).filter fun x => !(js.any (· == x))
end Mine
end
section -- Ln
namespace Mine
/-- a list of four to seven, written out -/
inductive Lens : List Int → Prop
  | l4 (a b c d : Int) : Lens [a, b, c, d]
  | l5 (a b c d e : Int) : Lens [a, b, c, d, e]
  | l6 (a b c d e f : Int) : Lens [a, b, c, d, e, f]
  | l7 (a b c d e f g : Int) : Lens [a, b, c, d, e, f, g]
theorem cons_of {l : List Int} {n : Nat} (h : l.length = n + 1) : ∃ a t, l = a :: t ∧ t.length = n := by
  cases l with
  | nil => cases h
  | cons a t => exact ⟨a, t, rfl, Nat.succ.inj h⟩
theorem lens {l : List Int} (b4 : 4 ≤ l.length) (b7 : l.length ≤ 7) : Lens l := by
  obtain ⟨n, hn⟩ : ∃ n, l.length = n + 4 := ⟨l.length - 4, by omega⟩
  rw [hn] at b7
  clear b4
  obtain ⟨a, t1, rfl, h1⟩ := cons_of hn
  clear hn
  obtain ⟨b, t2, rfl, h2⟩ := cons_of h1
  clear h1
  obtain ⟨c, t3, rfl, h3⟩ := cons_of h2
  clear h2
  obtain ⟨d, t4, rfl, h4⟩ := cons_of h3
  clear h3
  match n, h4 with
  | 0, hn => rw [List.eq_nil_of_length_eq_zero hn]; exact .l4 a b c d
  | n + 1, h4 =>
    obtain ⟨e, t5, rfl, h5⟩ := cons_of h4
    clear h4
    match n, h5 with
    | 0, hn => rw [List.eq_nil_of_length_eq_zero hn]; exact .l5 a b c d e
    | n + 1, h5 =>
      obtain ⟨f, t6, rfl, h6⟩ := cons_of h5
      clear h5
      match n, h6 with
      | 0, hn => rw [List.eq_nil_of_length_eq_zero hn]; exact .l6 a b c d e f
      | n + 1, h6 =>
        obtain ⟨g, t7, rfl, h7⟩ := cons_of h6
        match n, h7 with
        | 0, hn => rw [List.eq_nil_of_length_eq_zero hn]; exact .l7 a b c d e f g
        | n + 1, hn => exact absurd b7 (by omega)
end Mine
end
section -- Seqs
open PySem PySem.W PyProof.Rows PySem.Spec PySem.Calls
namespace Mine
/-- the place that an index means in a list of n -/
noncomputable def wrap (k : Int) (n : Nat) : Nat := if k < 0 then (k + n).toNat else k.toNat
theorem wrap_lt {k : Int} {n : Nat} (h0 : -(n : Int) ≤ k) (h1 : k < n) : wrap k n < n := by unfold wrap; split <;> omega
section
variable {w : World} {A : Around} {E : Value → Shared → Prop} {s : Shared} {value slice : Expr} {a : Addr} {vs : List Value} {ns : List Int} {k : Int} {u : Tok} {Q : Value → Shared → Prop}
theorem intsGet : ∀ {vs : List Value} {ns : List Int}, IntsAre vs ns → ∀ j, j < ns.length → ∃ t, vs[j]? = some (.int (ns.getD j 0) t)
  | _, _, .nil, _, h => absurd h (Nat.not_lt_zero _)
  | _, _, .cons n t _, 0, _ => ⟨t, rfl⟩
  | _, _, .cons _ _ r, j + 1, h => by simpa using intsGet r j (by simpa using h)
theorem itemW (hl : s.heap.IsList a vs.toArray) (hi : IntsAre vs ns) (hb : ns.length ≤ 1000) (h0 : -(ns.length : Int) ≤ k) (h1 : k < ns.length) (h : ∀ x t, x = ns.getD (wrap k ns.length) 0 → Q (.int x t) s)
    (hs : subscripted slice false (.ref a) (.int k u) = operate [.ref a, .int k u] (getItem (.ref a) (.int k u)) := by with_unfolding_all rfl) (hg : ∀ r, letTemporaryGo value (.ref a) r = pure () := by intro _; with_unfolding_all rfl) :
    wpAny (model prog0 w) A (subscriptTail value slice (.ref a) (.int k u)) Q E s := by
  by_cases hk : k < 0
  · obtain ⟨t, e⟩ := intsGet hi (k + ns.length).toNat (by omega)
    have hw : wrap k ns.length = (k + ns.length).toNat := if_pos hk
    exact subBack (l := vs) hl hk (by rw [hi.length]; exact h0) (by omega) (by rw [hi.length]; exact e) (h _ _ (by rw [hw])) hs hg
  · have hw : wrap k ns.length = k.toNat := if_neg hk
    exact item_anyK hl hi (by omega) h1 (by omega) (fun t => h _ t (by rw [hw])) hs
end
section
variable {w : World} {A : Around} {E : Value → Shared → Prop} {s : Shared} {h₀ : Heap} {L D : Addr} {m : Str → Option Value} {news news' : List (Addr × Obj)} {vs : List Value} {ns : List Int} {n : Nat} {k x : Int} {t u : Tok}
theorem setW {Q : Unit → Shared → Prop} (F : Fr h₀ L s.heap m) (N : News h₀ L s.heap news) (hm : (D, listOf vs.toArray n) ∈ news) (hi : IntsAre vs ns) (U : Upd D (listOf vs.toArray n) (listOf (vs.set (wrap k ns.length) (.int x u)).toArray n) news news') (hb : ns.length ≤ 1000) (h0 : -(ns.length : Int) ≤ k) (h1 : k < ns.length)
    (h : ∀ h' vs' ns', vs' = vs.set (wrap k ns.length) (.int x u) → ns' = ns.set (wrap k ns.length) x → ns'.length = ns.length → Fr h₀ L h' m → News h₀ L h' news' → IntsAre vs' ns' → Q () { s with heap := h' }) :
    wpAny (model prog0 w) A (setItem (.ref D) (.int k t) (.int x u)) Q E s := by
  by_cases hk : k < 0
  · have hw : wrap k ns.length = (k + ns.length).toNat := if_pos hk
    obtain ⟨pre, post, rfl, rfl, a, b⟩ := U.split
    have z := N (D, listOf vs.toArray n) (List.mem_append.mpr (.inr (.head _)))
    have hl : vs.length = ns.length := hi.length
    have hs : vs.toArray.size = ns.length := by rw [List.size_toArray]; exact hl
    refine ki_setBack z.1 hk (by rw [hs]; exact h0) (by omega) (h _ _ _ rfl rfl (List.length_set ..) (F.change (Heap.SameBut.update ..) z.2.1 z.2.2) (ki_turn _ N a b ?_ ?_) (ints_set hi _))
    · show vs.toArray.setIfInBounds (k + vs.toArray.size).toNat (.int x u) = _
      rw [hs, hw]
      apply Array.toList_inj.mp
      simp
    · simp
  · have hw : wrap k ns.length = k.toNat := if_neg hk
    rw [hw] at U h
    exact ksa_set F N U hi (by omega) h1 (by omega) fun h' F' N' i _ _ => h h' _ _ rfl rfl (List.length_set ..) F' N' i
theorem indexW {l : Addr} {Q : Value → Shared → Prop} (hl : s.heap.IsList l vs.toArray) (hi : IntsAre vs ns) (hb : ns.length ≤ 1000) (hk : x ∈ ns) (h : Q (.int (ns.idxOf x : Nat) s.toks) { s with toks := s.toks + 1 }) :
    wpAny (model prog0 w) A (call (.builtin "list.index") [.ref l, .int x t]) Q E s := by
  obtain ⟨⟨cls, dd, data, sl⟩, ho, hc, n, hd⟩ := id hl
  simp only at hc hd
  subst hc hd
  have hj : ns.idxOf x < ns.length := List.idxOf_lt_length_iff.mpr hk
  have e := hi.length
  refine call_meets PySem.F.slot_list_index ⟨_, ho, rfl⟩ PySem.F.entry_list_index (PySem.F.args_list_index_2 _ _)
    (PySem.SeqAt.list_indexAt l vs.toArray n dd sl (.int x t) (isInt x) (ns.idxOf x) (by simp; omega) (by omega) ?_ fun j h1 h2 => ?_) ⟨ho, fun y hy => (eq_isInt x t hi y (by simpa using hy)).at _ _, h⟩
  · exact (isInt_at x hi _ (by omega) hj).trans (by simp)
  · exact (isInt_at x hi j (by simpa using h1) (by omega)).trans (ne_of_lt_idxOf h2 _)
end
end Mine
namespace Mine
theorem range2_small {a b : Int} (h0 : 0 ≤ a) (h1 : a ≤ 1000) (h2 : -1000 ≤ b) (h3 : b ≤ 1000) : Builtin.Range.small a b 1 = true := small_one (by omega) (by omega) (by omega) (by omega)
theorem range2_size {a b : Int} {n : Nat} (h : b - a = (n : Int)) : Builtin.Range.rangeSize a b 1 = (n : Int) := by
  unfold Builtin.Range.rangeSize
  simp
  omega
theorem itemRefs {w : World} {A : Around} {E : Value → Shared → Prop} {s : Shared} {value slice : Expr} {a : Addr} {refs : List Addr} {k : Int} {u : Tok} {Q : Value → Shared → Prop} (hl : s.heap.IsList a (refs.map Value.ref).toArray) (h0 : 0 ≤ k) (h1 : k < refs.length) (hb : refs.length ≤ 1000) (h : Q (.ref (refs.getD k.toNat 0)) s)
    (hs : subscripted slice false (.ref a) (.int k u) = operate [.ref a, .int k u] (getItem (.ref a) (.int k u)) := by with_unfolding_all rfl) :
    wpAny (model prog0 w) A (subscriptTail value slice (.ref a) (.int k u)) Q E s :=
  tail_any hl.typeIs slot_list_getitem.lookup (wpAny_getItem_list hl h0 (by omega) (by
    have : k.toNat < refs.length := by omega
    simp [List.getD, List.getElem?_eq_getElem this]) h) hs
end Mine
namespace Mine
section
variable {w : World} {A : Around} {E : Value → Shared → Prop} {s : Shared} {h₀ : Heap} {L D b : Addr} {m : Str → Option Value} {news : List (Addr × Obj)} {news' : Nat → List (Addr × Obj)} {ys ws : List Value} {ns ms : List Int} {n n2 : Nat}
theorem notLong {a b : Array Value} (h : a.size + b.size ≤ 2000) : ¬(!a.isEmpty && Builtin.List.listTooLong (a.size + b.size)) = true := extend_door (Nat.le_trans h (by decide))
theorem extendW {Q : Value → Shared → Prop} (F : Fr h₀ L s.heap m) (N : News h₀ L s.heap news) (hm : (D, listOf ys.toArray n) ∈ news) (hb : (b, listOf ws.toArray n2) ∈ news) (hi : IntsAre ys ns) (hj : IntsAre ws ms) (l1 : ns.length ≤ 1000) (l2 : ms.length ≤ 1000)
    (U : ∀ c, Upd D (listOf ys.toArray n) (listOf (ys ++ ws).toArray c) news (news' c)) (h : ∀ h' c us, us = ys ++ ws → Fr h₀ L h' m → News h₀ L h' (news' c) → IntsAre us (ns ++ ms) → Q .none { s with heap := h' }) :
    wpAny (model prog0 w) A (call (.builtin "list.extend") [.ref D, .ref b]) Q E s := by
  have e1 := hi.length
  have e2 := hj.length
  have z1 : ys.toArray.toList.length ≤ sizeLine := by rw [sizeLine_eq]; simp; omega
  have z2 : ys.toArray.size + ws.toArray.size ≤ sizeLine + 1 := by rw [sizeLine_eq]; simp; omega
  have z3 := notLong (a := ys.toArray) (b := ws.toArray) (by simp; omega)
  by_cases hw : ws = []
  · subst hw
    refine kxn_extend F N hb rfl (news' := news' n) (its := ys.toArray) (n := n) ?_ z3 z1 z2 (fun h' F' N' => h h' n _ rfl F' N' (hi.append hj))
    have := U n
    rw [List.append_nil] at this
    exact this
  · exact kl_extend F N hb (l := ys ++ ws) rfl (by simpa using hw) (U (n + 1)) z3 z1 z2 (fun h' F' N' => h h' (n + 1) _ rfl F' N' (hi.append hj))
end
end Mine
end
section -- Exc
open PySem PySem.W PyProof.Rows PySem.Spec PySem.Calls
namespace Mine
theorem entry_unchain : entryFor table "proto.unchain" = some Builtin.«proto.unchain» := entryFor_of_fast (by kernel_rfl)
/-- a new IndexError, its context ctx -/
structure ExcNew (h h' : Heap) (e : Addr) (ctx : Value) : Prop where
  keeps : ∀ b o, h.get? b = some o → h'.get? b = some o
  new : h.get? e = none
  there : ∃ ob t, h'.get? e = some ob ∧ ob.cls = .type "IndexError" ∧ ob.data = .fields #[t, .none, ctx, .none, .bool false, .none]
theorem ExcNew.of {h h' : Heap} {e : Addr} (x : Heap.NewExc h h' e "IndexError") : ExcNew h h' e .none := ⟨x.keeps, x.new, x.there⟩
section
variable {w : World} {A : Around} {E : Value → Shared → Prop} {s : Shared}
theorem codeBuiltin {id : String} {args : Args} {b : Builtin} {R : Result → Shared → Prop} (hb : entryFor table id = some b)
    (h : wpAny (model prog0 w) (A.under (.builtin id args)) (b args) (fun fin s' => match fin with | .done f => R (.ok f) s' | .again c' => c'.quiet = true ∧ codeAny (model prog0 w) A c' R s') (fun e s' => R (.error e) s') s) :
    codeAny (model prog0 w) A (.builtin id args) R s := by
  refine codeAny_of_tree ?_
  show wpAny _ _ (match entryFor table id with | some b => b args | none => unsupported ((withoutEnding? id "#data").getD id)) _ _ s
  rw [hb]; exact h
theorem unchain {e e0 : Addr} {o0 : Obj} {vs0 : Array Value} {Q : Value → Shared → Prop} (he0 : s.heap.get? e0 = some o0) (hd0 : o0.data = .fields vs0) (h2 : vs0[2]? = some .none) (h : Q .none s) :
    wpAny (model prog0 w) A (runValue (.builtin "proto.unchain" ⟨[.ref e, .ref e0, .ref e0, .bool false], []⟩)) Q E s := by
  refine wpAny_runValue (codeBuiltin entry_unchain ?_)
  unfold Builtin.«proto.unchain»
  dsimp only
  refine wpAny_bind (wpAny_field he0 hd0 h2 ?_)
  rw [if_pos (by decide)]
  exact wpAny_pure h
theorem raiseCtx {α : Type} {msg : String} {e0 : Addr} {o0 : Obj} {vs0 : Array Value} {Q : α → Shared → Prop} (hh : A.handled = some (.ref e0)) (he0 : s.heap.get? e0 = some o0) (hd0 : o0.data = .fields vs0) (h2 : vs0[2]? = some .none)
    (h : ∀ h' tk e, ExcNew s.heap h' e (.ref e0) → E (.ref e) { s with heap := h', toks := tk }) : wpAny (model prog0 w) A (raiseErrorWords "IndexError" msg : Sem α) Q E s := by
  unfold raiseErrorWords
  refine wpAny_bind (wpAny_mkText (wpAny_bind ?_))
  unfold newExc newTuple
  refine wpAny_bind (wpAny_newObj_type ?_)
  refine wpAny_bind (m := firstArgMember _ _) (wpAny_of_eq (a := Value.none) (by simp only [firstArgMember, plainExc_IndexError.first]; rfl) ?_)
  rw [plainExc_IndexError.own]
  refine wpAny_newObj_type ?_
  unfold raiseNew
  refine wpAny_bind (wpAny_handled ?_)
  rw [hh]
  dsimp only
  have hlt : e0 < s.heap.objs.size := Heap.lt_size he0
  have hne : (Value.ref e0 != Value.ref (s.heap.push { cls := Value.type "tuple", data := Data.seq #[Value.str (Str.ofString msg) s.toks] }).objs.size) = true := by
    rw [bne_iff_ne]
    intro q
    injection q with q
    have h9 : (s.heap.push { cls := Value.type "tuple", data := Data.seq #[Value.str (Str.ofString msg) s.toks] }).objs.size = s.heap.objs.size + 1 := by simp
    rw [q, h9] at hlt
    exact Nat.lt_irrefl _ (Nat.lt_of_succ_lt hlt)
  rw [if_pos hne]
  refine wpAny_bind (wpAny_holding (unchain (o0 := o0) (Heap.get?_push_of_some _ (Heap.get?_push_of_some _ he0)) hd0 h2 ?_))
  have hnew := Heap.get?_push_size ((s.heap.push { cls := Value.type "tuple", data := Data.seq #[Value.str (Str.ofString msg) s.toks] })) (o := { cls := Value.type "IndexError", data := Data.fields (#[Value.ref s.heap.objs.size, Value.none, Value.none, Value.none, Value.bool false, Value.none] ++ #[]) }) rfl
  unfold updateField
  refine wpAny_bind (wpAny_bind (wpAny_load hnew ?_))
  dsimp only
  rw [if_pos (by simp)]
  refine wpAny_update hnew ?_
  refine wpAny_throw (h _ _ _ ⟨fun b o hb => ?_, ?_, ?_⟩)
  · rw [Heap.get?_update_other _ _ (Nat.ne_of_gt (Nat.lt_of_lt_of_le (Heap.lt_size hb) (by simp)))]
    exact Heap.get?_push_of_some _ (Heap.get?_push_of_some _ hb)
  · exact Heap.get?_none_of_le (by simp)
  · exact ⟨_, _, Heap.get?_update_self _ hnew rfl, rfl, rfl⟩
set_option maxRecDepth 100000 in
/-- an item that is not there, under an exception that is being handled -/
theorem getItemOutCtx {l : Addr} {items : Array Value} {j : Nat} {t : Tok} {e0 : Addr} {o0 : Obj} {vs0 : Array Value} {Q : Value → Shared → Prop} (hA : A.handled = some (.ref e0)) (he0 : s.heap.get? e0 = some o0) (hd0 : o0.data = .fields vs0) (h2 : vs0[2]? = some .none)
    (hl : s.heap.IsList l items) (hout : items.size ≤ j) (hj : j ≤ 2000) (hE : ∀ h' tk e, ExcNew s.heap h' e (.ref e0) → E (.ref e) { s with heap := h', toks := tk }) :
    wpAny (model prog0 w) A (getItem (.ref l) (.int j t)) Q E s := by
  obtain ⟨o, ho, hc, ne, hd⟩ := id hl
  have hk : ∃ k : Int, (j : Int) = k ∧ k = Int.ofNat j := ⟨_, rfl, rfl⟩
  obtain ⟨k, ek, ek'⟩ := hk
  rw [ek]
  unfold getItem
  try with_reducible refine wpAny_holding ?_
  first | refine wpAny_bind (wpAny_pure ?_) | skip
  refine wpAny_bind (wpAny_sequenceKey hl.typeIs (by decide) ?_)
  refine wpAny_bind (wpAny_callSpecial?_slot (name := Str.ofString "__getitem__") hl.typeIs slot_list_getitem
    (wpAny_call_entry slot_list_getitem hl.typeIs entry_list_getitem ?_ (args_list_getitem _ _)))
  show wpAny _ _ (Builtin.List.listSubscript? (.int k t) >>= _) _ _ s
  refine wpAny_bind (wpAny_listSubscript_int (fitsIndex_both (by omega) (by omega)) ?_)
  clear ek
  subst ek'
  have hx : items[j]? = none := Array.getElem?_eq_none hout
  show wpAny _ _ ((seqItemAt l j >>= fun r => pure (r.map (j, ·))) >>= _) _ _ s
  refine wpAny_bind (wpAny_bind (wpAny_seqItemAt ho hd (wpAny_pure ?_)))
  rw [hx]
  have hA' : A.in1.handled = some (.ref e0) := hA
  first
    | exact wpAny_bind (wpAny_rule (raiseCtx hA' he0 hd0 h2 hE))
    | exact wpAny_bind (wpAny_rule (wpAny_bind (raiseCtx hA' he0 hd0 h2 hE)))
    | exact wpAny_bind (wpAny_bind (wpAny_rule (raiseCtx hA' he0 hd0 h2 hE)))
    | exact wpAny_rule (raiseCtx hA' he0 hd0 h2 hE)

/-- the objects of an exception that this frame has raised -/
noncomputable abbrev EX (o : Obj) (t tb ctx : Value) : Obj := { o with data := .fields #[t, tb, ctx, .none, .bool false, .none] }
noncomputable abbrev TB (tvs : Array Value) : Obj := { cls := .type "traceback", dict := none, data := .fields tvs }
theorem noteRaw {M : Model} {base : Heap} {env : Env} {outer : List Env} {L e : Addr} {oe : Obj} {vs : Array Value} {Q : Unit → Shared → Prop}
    (hfr : A.frames = some (env :: outer)) (hl : s.heap.FunFrames base (env :: outer)) (hf : env.frame = some L) (he : s.heap.get? e = some oe) (hd : oe.data = .fields vs) (h1 : vs[1]? = some .none)
    (h : ∀ h' tb tvs, (∀ b o, b ∉ (env :: outer).filterMap (·.frame) → b ≠ e → s.heap.get? b = some o → h'.get? b = some o) → (∀ b o, b ∈ (env :: outer).filterMap (·.frame) → s.heap.get? b = some o → ∃ sl, h'.get? b = some { o with slots := sl }) →
      s.heap.get? tb = none → tb ≠ e → h'.get? e = some (oe.mapFields (·.setIfInBounds 1 (.ref tb))) → h'.get? tb = some (TB tvs) → tvs[3]? = some (rawInt L) → Q () { s with heap := h' }) :
    wpAny M A (noteFrame (.ref e) env) Q E s := by
  have hsz : 1 < vs.size := (Array.getElem?_eq_some_iff.mp h1).1
  have hene : e ∉ (env :: outer).filterMap (·.frame) := fun hm => by
    obtain ⟨_, o, ho, hnf⟩ := hl.mem hm
    rw [he] at ho; injection ho with ho; subst ho; exact hnf vs hd
  unfold noteFrame
  simp only [hf]
  refine wpAny_bind (wpAny_field he hd h1 ?_)
  rw [if_neg (by decide)]
  refine wpAny_bind (wpAny_frameOf_fun hfr hl hf fun h₁ hs₁ => ?_)
  refine wpAny_bind (wpAny_entryPlaceOf fun pl hpl => ?_)
  unfold EntryCells.newEntry newFields
  refine wpAny_bind (wpAny_newObj_type ?_ (hpl.sizeOk5 _ _ _ _ _))
  have he₁ : h₁.get? e = some oe := (hs₁.2.1 e hene).trans he
  have hTe : h₁.objs.size ≠ e := Nat.ne_of_gt (Heap.lt_size he₁)
  refine wpAny_setField (Heap.get?_push_of_some _ he₁) hd hsz (h _ h₁.objs.size ([Value.none, .ref L, .none, rawInt L, .none] ++ (if pl.isEmpty then List.replicate 6 Value.none else pl)).toArray (fun b o hb hbe ho => ?_) (fun b o hb ho => ?_) ?_ hTe ?_ ?_ ?_)
  · have hb₁ : h₁.get? b = some o := (hs₁.2.1 b hb).trans ho
    rw [Heap.get?_update_other _ _ (Ne.symm hbe)]
    exact Heap.get?_push_of_some _ hb₁
  · obtain ⟨sl, hs⟩ := hs₁.2.2 b o ho
    refine ⟨sl, ?_⟩
    rw [Heap.get?_update_other _ _ (fun q => hene (by rw [q]; exact hb))]
    exact Heap.get?_push_of_some _ hs
  · cases q : s.heap.get? h₁.objs.size with
    | none => rfl
    | some o =>
      obtain ⟨sl, hs⟩ := hs₁.2.2 _ o q
      exact absurd (Heap.lt_size hs) (Nat.lt_irrefl _)
  · exact Heap.get?_update_self _ (Heap.get?_push_of_some _ he₁) (Obj.isFreed_of_fields (Obj.data_mapFields hd _))
  · exact (Heap.get?_update_other _ _ (Ne.symm hTe)).trans (Heap.get?_push_size _ rfl)
  · first | (simp; done) | (rcases hpl with rfl | ⟨_, _, _, _, _, _, _, rfl⟩ <;> simp)

theorem Fr.self {hb h : Heap} {L : Addr} {m : Mp} (F : Fr hb L h m) : hb.get? L = none := by
  cases q : hb.get? L with
  | none => rfl
  | some o => exact absurd (Nat.lt_of_lt_of_le (Heap.lt_size q) F.above) (Nat.lt_irrefl _)
theorem noteNew {M : Model} {env lenv : Env} {hb h0 : Heap} {L Lw e : Addr} {oL : Obj} {m : Mp} {rest : List (Addr × Obj)} {ctx : Value} {Q : Unit → Shared → Prop}
    (hfr : A.frames = some [env, lenv]) (hk : env.scope.kind ≠ .module) (hf : env.frame = some L) (hk2 : lenv.scope.kind ≠ .module) (hf2 : lenv.frame = some Lw) (hLd : ∃ es ep, oL.data = .dict es ep)
    (F : Fr hb L h0 m) (N : News hb L h0 ((Lw, oL) :: rest)) (hr : ∀ q ∈ rest, q.1 ≠ Lw) (x : ExcNew h0 s.heap e ctx)
    (h : ∀ h' o t tb tvs sl, o.cls = .type "IndexError" → Fr hb L h' m → News hb L h' ((tb, TB tvs) :: (e, EX o t (.ref tb) ctx) :: (Lw, { oL with slots := sl }) :: rest) → tvs[3]? = some (rawInt L) →
      (@Ne Nat tb e ∧ @Ne Nat tb Lw ∧ @Ne Nat e Lw ∧ (∀ q ∈ rest, q.1 ≠ tb) ∧ (∀ q ∈ rest, q.1 ≠ e)) → Q () { s with heap := h' }) : wpAny M A (noteFrame (.ref e) env) Q E s := by
  obtain ⟨ob, t, he, hc, hd⟩ := x.there
  obtain ⟨des, dep, hdict⟩ := hLd
  obtain ⟨oF, fes, fep, hL, hLdd, hrest⟩ := F.ns
  have z := N (Lw, oL) (.head _)
  have hLn := Fr.self F
  have hLL : @Ne Nat Lw L := z.2.1
  have heL : e ≠ L := fun q => by have := x.new; rw [q, hL] at this; cases this
  have hew : e ≠ Lw := fun q => by have := x.new; rw [q, z.1] at this; cases this
  have fmem : ∀ b, b ∈ [env, lenv].filterMap (·.frame) ↔ b = L ∨ b = Lw := fun b => by simp [hf, hf2]
  refine noteRaw (base := hb) hfr ⟨hk, ⟨L, oF, hf, hLn, x.keeps _ _ hL, fun vs q => by rw [hLdd] at q; cases q⟩, hk2, ⟨Lw, oL, hf2, z.2.2, x.keeps _ _ z.1, fun vs q => by rw [hdict] at q; cases q⟩, trivial⟩ hf he hd rfl ?_
  intro h' tb tvs k1 k2 k3 k4 k5 k6 k7
  obtain ⟨sl, hsl⟩ := k2 Lw oL ((fmem _).mpr (.inr rfl)) (x.keeps _ _ z.1)
  obtain ⟨sl2, hsl2⟩ := k2 L oF ((fmem _).mpr (.inl rfl)) (x.keeps _ _ hL)
  have keep : ∀ b o, b ≠ L → b ≠ Lw → h0.get? b = some o → h'.get? b = some o := fun b o n1 n2 ho =>
    k1 b o (fun q => ((fmem b).mp q).elim n1 n2) (fun q => by have := x.new; rw [← q, ho] at this; cases this) (x.keeps _ _ ho)
  have htb0 : h0.get? tb = none := by
    cases q : h0.get? tb with
    | none => rfl
    | some o => rw [x.keeps _ _ q] at k3; cases k3
  have htbL : tb ≠ L := fun q => by rw [q, hL] at htb0; cases htb0
  have htbw : tb ≠ Lw := fun q => by rw [q, z.1] at htb0; cases htb0
  have noneB : ∀ {b}, h0.get? b = none → hb.get? b = none := fun {b} q => by
    cases q' : hb.get? b with
    | none => rfl
    | some o => rw [F.keep _ _ q'] at q; cases q
  have F' : Fr hb L h' m := ⟨⟨_, fes, fep, hsl2, hLdd, hrest⟩, fun b o e => keep b o (fun q => by rw [q, hLn] at e; cases e) (fun q => by rw [q, z.2.2] at e; cases e) (F.keep b o e), F.above⟩
  have eob : ob.mapFields (·.setIfInBounds 1 (.ref tb)) = EX ob t (.ref tb) ctx := by
    obtain ⟨c, d, dt, sl⟩ := ob
    obtain rfl : dt = _ := hd
    rfl
  rw [eob] at k5
  refine h h' ob t tb tvs sl hc F' (fun q hq => ?_) k7 ⟨k4, htbw, hew, fun q hq e => ?_, fun q hq e => ?_⟩
  · revert q
    refine List.forall_mem_cons.mpr ⟨?_, List.forall_mem_cons.mpr ⟨?_, List.forall_mem_cons.mpr ⟨?_, fun q hq => ?_⟩⟩⟩
    · exact ⟨k6, htbL, noneB htb0⟩
    · exact ⟨k5, heL, noneB x.new⟩
    · exact ⟨hsl, z.2.1, z.2.2⟩
    have y := N q (.tail _ hq)
    exact ⟨keep _ _ y.2.1 (hr q hq) y.1, y.2⟩
  · have y := (N q (.tail _ hq)).1
    rw [e, htb0] at y; cases y
  · have y := (N q (.tail _ hq)).1
    rw [e, x.new] at y; cases y
/-- the frame has noted it already -/
theorem noteAgain {M : Model} {env : Env} {L e tb : Addr} {o : Obj} {t ctx : Value} {tvs : Array Value} {Q : Unit → Shared → Prop} (hf : env.frame = some L) (he : s.heap.get? e = some (EX o t (.ref tb) ctx)) (htb : s.heap.get? tb = some (TB tvs)) (h3 : tvs[3]? = some (rawInt L)) (h : Q () s) :
    wpAny M A (noteFrame (.ref e) env) Q E s := wpAny_noteFrame_inFlight hf he rfl rfl htb rfl h3 h
/-- where it flies is told -/
theorem flight {M : Model} {fl : Option Addr} {hb : Heap} {L e tb : Addr} {o : Obj} {t ctx : Value} {tvs : Array Value} {m : Mp} {rest : List (Addr × Obj)} {x : Value} {Q : Unit → Shared → Prop} (F : Fr hb L s.heap m)
    (N : News hb L s.heap ((tb, TB tvs) :: (e, EX o t (.ref tb) ctx) :: rest)) (hne : @Ne Nat tb e) (hr : ∀ q ∈ rest, q.1 ≠ tb) (h3 : tvs[3]? = some x)
    (h : ∀ h' tvs', Fr hb L h' m → News hb L h' ((tb, TB tvs') :: (e, EX o t (.ref tb) ctx) :: rest) → tvs'[3]? = some (fl.elim .none fun f => rawInt f) → Q () { s with heap := h' }) :
    wpAny M A (setFlight (.ref e) fl) Q E s := by
  have z := N _ (.head _)
  have y := N _ (.tail _ (.head _))
  have hsz : 3 < tvs.size := (Array.getElem?_eq_some_iff.mp h3).1
  unfold setFlight
  refine wpAny_bind (wpAny_field y.1 rfl (x := .ref tb) rfl ?_)
  rw [if_pos (show (Value.ref tb != Value.none) = true from by simp)]
  have other : ∀ b, b ≠ tb → (s.heap.update tb (Obj.mapFields (·.setIfInBounds 3 (fl.elim .none fun f => rawInt f)))).get? b = s.heap.get? b := fun b hb => Heap.get?_update_other _ _ (Ne.symm hb)
  refine wpAny_setField z.1 rfl hsz (h _ (tvs.setIfInBounds 3 (fl.elim .none fun f => rawInt f)) ?_ ?_ (by simp [hsz]))
  · obtain ⟨oF, fes, fep, hL, hrest⟩ := F.ns
    exact ⟨⟨oF, fes, fep, (other _ (Ne.symm z.2.1)).trans hL, hrest⟩, fun b o e => (other b fun q => by rw [q, z.2.2] at e; cases e).trans (F.keep b o e), F.above⟩
  · intro q hq
    revert q
    refine List.forall_mem_cons.mpr ⟨?_, List.forall_mem_cons.mpr ⟨?_, fun q hq => ?_⟩⟩
    · exact ⟨Heap.get?_update_self _ z.1 rfl, z.2⟩
    · exact ⟨(other _ (Ne.symm hne)).trans y.1, y.2⟩
    have u := N q (.tail _ (.tail _ hq))
    exact ⟨(other _ (hr q hq)).trans u.1, u.2⟩
end
end Mine
end
section -- P1
namespace Mine
theorem set_bd {l : List Int} {i : Nat} {x lo hi : Int} (h : ∀ e ∈ l, lo ≤ e ∧ e ≤ hi) (hx : lo ≤ x ∧ x ≤ hi) : ∀ e ∈ l.set i x, lo ≤ e ∧ e ≤ hi := fun e he => by
  rcases List.mem_or_eq_of_mem_set he with he | rfl
  · exact h e he
  · exact hx
theorem getD_bd {l : List Int} {i : Nat} {lo hi : Int} (h : ∀ e ∈ l, lo ≤ e ∧ e ≤ hi) (hi' : i < l.length) : lo ≤ l.getD i 0 ∧ l.getD i 0 ≤ hi := by
  rw [List.getD, List.getElem?_eq_getElem hi']
  exact h _ (List.getElem_mem hi')
theorem getD_set_ne {l : List Int} {i j : Nat} {x : Int} (h : i ≠ j) : (l.set i x).getD j 0 = l.getD j 0 := by
  rw [List.getD, List.getD, List.getElem?_set_ne h]
theorem ringStep_bd {ring : List Int} {x hi : Int} (h3 : 3 ≤ ring.length) (h5 : 5 ≤ hi) (h : ∀ e ∈ ring, 1 ≤ e ∧ e ≤ hi) : ∀ e ∈ ringStep ring x, 1 ≤ e ∧ e ≤ hi + 1 := by
  unfold ringStep
  simp only
  generalize ht : x / 8 % 16 = t
  have t0 : 0 ≤ t ∧ t < 16 := by omega
  have hk0 : 0 ≤ x % (ring.length : Int) := Int.emod_nonneg _ (by omega)
  have hk1 : x % (ring.length : Int) < ring.length := Int.emod_lt_of_pos _ (by omega)
  generalize hk : (x % (ring.length : Int)).toNat = k
  have kl : k < ring.length := by omega
  have ha : ahead ring.length k < ring.length ∧ ahead ring.length k ≠ k := by unfold ahead; split <;> omega
  have hw : ∀ e ∈ ring, 1 ≤ e ∧ e ≤ hi + 1 := fun e he => ⟨(h e he).1, by have := (h e he).2; omega⟩
  have g1 := getD_bd h ha.1
  have g2 := getD_bd h kl
  have d1 : (0 : Int) ≤ (if t > 13 then 0 else 1) ∧ (if t > 13 then (0 : Int) else 1) ≤ 1 := by split <;> omega
  have d2 : (0 : Int) ≤ (if 11 < t ∧ t < 14 then 0 else 1) ∧ (if 11 < t ∧ t < 14 then (0 : Int) else 1) ≤ 1 := by split <;> omega
  have d3 : (1 : Int) ≤ (if 7 < t ∧ t < 12 then t - 6 else 1) ∧ (if 7 < t ∧ t < 12 then t - 6 else (1 : Int)) ≤ 5 := by split <;> omega
  rw [getD_set_ne ha.2]
  generalize (if t > 13 then (0 : Int) else 1) = u at *
  generalize (if 11 < t ∧ t < 14 then (0 : Int) else 1) = v at *
  generalize (if 7 < t ∧ t < 12 then t - 6 else (1 : Int)) = z at *
  have s2 := set_bd (i := k) (x := ring.getD k 0 + v) (set_bd (i := ahead ring.length k) (x := ring.getD (ahead ring.length k) 0 + u) hw (by omega)) (by omega)
  intro e he
  rcases List.mem_append.mp he with he | he
  · rcases List.mem_append.mp he with he | he
    · exact s2 e (List.mem_of_mem_take he)
    · rw [List.mem_singleton.mp he]; omega
  · exact s2 e (List.mem_of_mem_drop he)
theorem ringStep_len (ring : List Int) (x : Int) : (ringStep ring x).length = ring.length + 1 := by
  unfold ringStep
  simp only [List.length_append, List.length_take, List.length_drop, List.length_set, List.length_singleton]
  omega
theorem ring_fold : ∀ (nums ring : List Int) (hi : Int), 3 ≤ ring.length → 5 ≤ hi → (∀ e ∈ ring, 1 ≤ e ∧ e ≤ hi) → (nums.foldl ringStep ring).length = ring.length + nums.length ∧ ∀ e ∈ nums.foldl ringStep ring, 1 ≤ e ∧ e ≤ hi + nums.length
  | [], ring, hi, _, _, h => ⟨rfl, fun e he => ⟨(h e he).1, by have := (h e he).2; simp; omega⟩⟩
  | x :: nums, ring, hi, h3, h5, h => by
    have ih := ring_fold nums (ringStep ring x) (hi + 1) (by rw [ringStep_len]; omega) (by omega) (ringStep_bd h3 h5 h)
    rw [ringStep_len] at ih
    refine ⟨by rw [List.foldl_cons, ih.1, List.length_cons]; omega, fun e he => ?_⟩
    have := ih.2 e he
    rw [List.length_cons]
    omega
theorem ringOf_bd {nums : List Int} (h1 : 1 ≤ nums.length) (h4 : nums.length ≤ 4) : 4 ≤ (ringOf nums).length ∧ (ringOf nums).length ≤ 7 ∧ ∀ e ∈ ringOf nums, 1 ≤ e ∧ e ≤ 9 := by
  have := ring_fold nums [1, 1, 1] 5 (by decide) (by decide) (by decide)
  refine ⟨?_, ?_, fun e he => ?_⟩
  · show 4 ≤ (nums.foldl ringStep [1, 1, 1]).length
    rw [this.1]; simp; omega
  · show (nums.foldl ringStep [1, 1, 1]).length ≤ 7
    rw [this.1]; simp; omega
  · have := this.2 e he
    omega
end Mine
end
section -- P2a
namespace Mine
noncomputable def Kc (a : Nat → Int) : Nat → Nat → Int
  | 0, _ => 1
  | 1, i => a i
  | r + 2, i => a (i + r + 1) * Kc a (r + 1) i - Kc a r i
theorem euler (a : Nat → Int) : ∀ r i, Kc a (r + 1) i * Kc a (r + 1) (i + 1) - Kc a (r + 2) i * Kc a r (i + 1) = 1
  | 0, i => by
    show a i * a (i + 1) - (a (i + 0 + 1) * a i - 1) * 1 = 1
    grind
  | r + 1, i => by
    have ih := euler a r i
    have e1 : Kc a (r + 2) (i + 1) = a (i + 1 + r + 1) * Kc a (r + 1) (i + 1) - Kc a r (i + 1) := rfl
    have e2 : Kc a (r + 1 + 2) i = a (i + (r + 1) + 1) * Kc a (r + 2) i - Kc a (r + 1) i := rfl
    have e3 : i + 1 + r + 1 = i + (r + 1) + 1 := by omega
    show Kc a (r + 2) i * Kc a (r + 2) (i + 1) - Kc a (r + 1 + 2) i * Kc a (r + 1) (i + 1) = 1
    rw [e1, e2, e3]
    grind
theorem Kc_per {a : Nat → Int} {n : Nat} (h : ∀ i, a (i + n) = a i) : ∀ r i, Kc a r (i + n) = Kc a r i
  | 0, _ => rfl
  | 1, i => h i
  | r + 2, i => by
    show a (i + n + r + 1) * Kc a (r + 1) (i + n) - Kc a r (i + n) = a (i + r + 1) * Kc a (r + 1) i - Kc a r i
    rw [Kc_per h (r + 1) i, Kc_per h r i, show i + n + r + 1 = (i + r + 1) + n by omega, h]
theorem Kc_mod {a : Nat → Int} {n : Nat} (h : ∀ i, a (i + n) = a i) (r i : Nat) : Kc a r (i % n) = Kc a r i := by
  have : ∀ k j, Kc a r (j + n * k) = Kc a r j := fun k => by
    induction k with
    | zero => intro j; simp
    | succ k ih => intro j; rw [Nat.mul_succ, ← Nat.add_assoc, Kc_per h, ih]
  conv => rhs; rw [← Nat.mod_add_div i n]
  rw [this]
noncomputable def rowK (n : Nat) (a : Nat → Int) (r : Nat) : List Int := (List.range n).map fun i => Kc a r i
theorem rowK_len {n : Nat} {a : Nat → Int} {r : Nat} : (rowK n a r).length = n := by simp [rowK]
theorem rowK_get {n : Nat} {a : Nat → Int} {r i : Nat} (h : i < n) : (rowK n a r).getD i 0 = Kc a r i := by
  simp [rowK, List.getD, h]
theorem rowXY {n : Nat} {a : Nat → Int} (h : ∀ i, a (i + n) = a i) {r i : Nat} (hi : i < n) : rowX n (rowK n a (r + 1)) i = Kc a (r + 2) i * Kc a r (i + 1) ∧ rowY n (rowK n a r) i = Kc a r (i + 1) := by
  have hm : (i + 1) % n < n := Nat.mod_lt _ (by omega)
  unfold rowX rowY
  rw [rowK_get hi, rowK_get hm, rowK_get hm, Kc_mod h, Kc_mod h]
  have := euler a r i
  exact ⟨by omega, rfl⟩
theorem rowL_eq {n : Nat} {a : Nat → Int} (h : ∀ i, a (i + n) = a i) {r : Nat} (hp : ∀ i, 1 ≤ Kc a r i) : ∀ k i, i + k = n → (∀ j, j < i → Kc a (r + 2) j ≠ 0) →
    (rowL n (rowK n a r) (rowK n a (r + 1)) k i ((List.range i).map fun j => Kc a (r + 2) j) = .row (rowK n a (r + 2)) ∧ ∀ j, j < n → Kc a (r + 2) j ≠ 0) ∨ rowL n (rowK n a r) (rowK n a (r + 1)) k i ((List.range i).map fun j => Kc a (r + 2) j) = .zero
  | 0, i, e, hz => by
    obtain rfl : i = n := by omega
    exact .inl ⟨rfl, hz⟩
  | k + 1, i, e, hz => by
    have hi : i < n := by omega
    obtain ⟨eX, eY⟩ := rowXY h (r := r) hi
    have hy := hp (i + 1)
    unfold rowL
    rw [eX, eY, Int.mul_emod_left, if_neg (by simp), Int.mul_ediv_cancel _ (by omega)]
    by_cases h0 : Kc a (r + 2) i = 0
    · rw [if_pos h0]; exact .inr rfl
    · rw [if_neg h0]
      have := rowL_eq h hp k (i + 1) (by omega) (fun j hj => by
        rcases Nat.lt_or_ge j i with q | q
        · exact hz j q
        · obtain rfl : j = i := by omega
          exact h0)
      rwa [List.range_succ, List.map_append] at this
theorem runL_eq {n : Nat} {a : Nat → Int} (n0 : 0 < n) (h : ∀ i, a (i + n) = a i) : ∀ k r, (∀ q, q ≤ r + 1 → ∀ i, 1 ≤ Kc a q i) →
    ∃ R, r + 1 ≤ R ∧ R ≤ r + 1 + k ∧ runL n k ((List.range r).map (rowK n a)) (rowK n a r) (rowK n a (r + 1)) = some ((List.range (R + 1)).map (rowK n a)) ∧ ∀ q, q ≤ R → ∀ i, 1 ≤ Kc a q i
  | 0, r, hp => ⟨r + 1, Nat.le_refl _, Nat.le_refl _, by rw [List.range_succ, List.range_succ]; simp [runL], hp⟩
  | k + 1, r, hp => by
    rcases rowL_eq h (r := r) (hp r (by omega)) n 0 (by omega) (fun j hj => absurd hj (Nat.not_lt_zero _)) with ⟨e, hz⟩ | e
    · have hp' : ∀ q, q ≤ r + 1 + 1 → ∀ i, 1 ≤ Kc a q i := fun q hq i => by
        rcases Nat.lt_or_ge q (r + 2) with hq' | hq'
        · exact hp q (by omega) i
        · obtain rfl : q = r + 2 := by omega
          rw [← Kc_mod h]
          have hi : i % n < n := Nat.mod_lt _ n0
          generalize i % n = i at hi
          have h1 := hz i hi
          have h2 := euler a r i
          have h3 := hp r (by omega) (i + 1)
          have h4 := hp (r + 1) (by omega) i
          have h5 := hp (r + 1) (by omega) (i + 1)
          have h6 : 1 ≤ Kc a (r + 1) i * Kc a (r + 1) (i + 1) := by
            have := Int.mul_le_mul h4 h5 (by omega) (by omega)
            simpa using this
          rcases Int.lt_or_le (Kc a (r + 2) i) 0 with h7 | h7
          · have := Int.mul_neg_of_neg_of_pos h7 (show 0 < Kc a r (i + 1) by omega)
            omega
          · omega
      obtain ⟨R, r1, r2, r3, r4⟩ := runL_eq n0 h k (r + 1) hp'
      refine ⟨R, by omega, by omega, ?_, r4⟩
      unfold runL
      rw [show (List.map (fun j => Kc a (r + 2) j) (List.range 0)) = [] from rfl] at e
      rw [e, ← r3, List.range_succ, List.map_append]
      rfl
    · refine ⟨r + 1, Nat.le_refl _, by omega, ?_, hp⟩
      unfold runL
      rw [show (List.map (fun j => Kc a (r + 2) j) (List.range 0)) = [] from rfl] at e
      rw [e, List.range_succ, List.range_succ]
      simp
theorem runOf_eq {ring : List Int} (b4 : 4 ≤ ring.length) (bnd : ∀ e ∈ ring, 1 ≤ e ∧ e ≤ 9) :
    ∃ R, 1 ≤ R ∧ R ≤ ring.length - 2 ∧ runOf ring = some ((List.range (R + 1)).map (rowK ring.length fun i => ring.getD (i % ring.length) 0)) ∧ ∀ q, q ≤ R → ∀ i, 1 ≤ Kc (fun i => ring.getD (i % ring.length) 0) q i := by
  have hp : ∀ i, ring.getD ((i + ring.length) % ring.length) 0 = ring.getD (i % ring.length) 0 := fun i => by rw [Nat.add_mod_right]
  obtain ⟨R, r1, r2, r3, r4⟩ := runL_eq (a := fun i => ring.getD (i % ring.length) 0) (show 0 < ring.length by omega) hp (ring.length - 3) 0 (fun q hq i => by
    rcases q with _ | _ | q
    · exact Int.le_refl _
    · exact (getD_bd bnd (Nat.mod_lt _ (by omega))).1
    · omega)
  refine ⟨R, r1, by omega, ?_, r4⟩
  rw [← r3]
  unfold runOf
  have e0 : List.replicate ring.length (1 : Int) = rowK ring.length (fun i => ring.getD (i % ring.length) 0) 0 := by
    unfold rowK
    show _ = List.map (fun _ => (1 : Int)) _
    rw [List.map_const']
    simp
  have e1 : ring = rowK ring.length (fun i => ring.getD (i % ring.length) 0) (0 + 1) := by
    unfold rowK
    apply List.ext_getElem
    · simp
    · intro i h1 h2
      simp [Kc, Nat.mod_eq_of_lt h1, List.getD, h1]
  rw [e0, ← e1]
  rfl
end Mine
end
section -- P2b
namespace Mine
noncomputable def CR4 : List (List Int) := [[1, 2, 1, 2], [2, 1, 2, 1]]
noncomputable def CR5 : List (List Int) := [[1, 2, 2, 1, 3], [2, 1, 3, 1, 2], [1, 3, 1, 2, 2], [2, 2, 1, 3, 1], [3, 1, 2, 2, 1]]
noncomputable def CR6 : List (List Int) := [[1, 2, 2, 2, 1, 4], [2, 1, 3, 2, 1, 3], [1, 3, 1, 3, 1, 3], [1, 2, 3, 1, 2, 3], [2, 2, 2, 1, 4, 1], [3, 1, 2, 3, 1, 2], [2, 2, 1, 4, 1, 2], [2, 1, 4, 1, 2, 2], [3, 1, 3, 1, 3, 1], [1, 4, 1, 2, 2, 2], [1, 3, 2, 1, 3, 2], [2, 3, 1, 2, 3, 1], [3, 2, 1, 3, 2, 1], [4, 1, 2, 2, 2, 1]]
noncomputable def CR7 : List (List Int) := [[1, 2, 2, 2, 2, 1, 5], [2, 1, 3, 2, 2, 1, 4], [1, 3, 1, 3, 2, 1, 4], [1, 2, 3, 1, 3, 1, 4], [1, 2, 2, 3, 1, 2, 4], [2, 2, 2, 2, 1, 5, 1], [3, 1, 2, 3, 2, 1, 3], [2, 2, 1, 4, 2, 1, 3], [2, 1, 4, 1, 3, 1, 3], [2, 1, 3, 3, 1, 2, 3], [3, 1, 3, 2, 1, 4, 1], [1, 4, 1, 2, 3, 1, 3], [1, 3, 2, 1, 4, 1, 3], [1, 3, 1, 4, 1, 2, 3], [2, 3, 1, 3, 1, 4, 1], [1, 2, 4, 1, 2, 2, 3], [1, 2, 3, 2, 1, 3, 3], [2, 2, 3, 1, 2, 4, 1], [1, 3, 2, 2, 1, 4, 2], [2, 2, 2, 1, 5, 1, 2], [3, 2, 2, 1, 4, 2, 1], [4, 1, 2, 2, 3, 1, 2], [3, 2, 1, 3, 3, 1, 2], [3, 1, 3, 1, 4, 1, 2], [3, 1, 2, 4, 1, 2, 2], [4, 1, 2, 3, 1, 3, 1], [2, 3, 1, 2, 4, 1, 2], [2, 2, 1, 5, 1, 2, 2], [3, 2, 1, 4, 1, 3, 1], [2, 1, 5, 1, 2, 2, 2], [2, 1, 4, 2, 1, 3, 2], [3, 1, 4, 1, 2, 3, 1], [1, 4, 1, 3, 1, 3, 2], [4, 1, 3, 1, 3, 2, 1], [1, 5, 1, 2, 2, 2, 2], [1, 4, 2, 1, 3, 2, 2], [2, 4, 1, 2, 2, 3, 1], [1, 3, 3, 1, 2, 3, 2], [2, 3, 2, 1, 3, 3, 1], [3, 3, 1, 2, 3, 2, 1], [4, 2, 1, 3, 2, 2, 1], [5, 1, 2, 2, 2, 2, 1]]
noncomputable def CR : Nat → List (List Int)
  | 3 => [[1, 1, 1]]
  | 4 => CR4
  | 5 => CR5
  | 6 => CR6
  | 7 => CR7
  | _ => []
noncomputable def uncut (ns : List Int) (k : Nat) : List Int :=
  let ms := ns.take k ++ [1] ++ ns.drop k
  let ms2 := ms.set (ahead ms.length k) (ms.getD (ahead ms.length k) 0 + 1)
  ms2.set ((k + 1) % ms.length) (ms2.getD ((k + 1) % ms.length) 0 + 1)
theorem CR_up4 : ((CR 3).all fun ns => (List.range 4).all fun k => (CR 4).contains (uncut ns k)) = true := by decide +kernel
theorem CR_up5 : ((CR 4).all fun ns => (List.range 5).all fun k => (CR 5).contains (uncut ns k)) = true := by decide +kernel
theorem CR_up6 : ((CR 5).all fun ns => (List.range 6).all fun k => (CR 6).contains (uncut ns k)) = true := by decide +kernel
theorem CR_up7 : ((CR 6).all fun ns => (List.range 7).all fun k => (CR 7).contains (uncut ns k)) = true := by decide +kernel
theorem getD_at {l : List Int} {k : Nat} (hk : k < l.length) : l.getD k 0 = l[k] := by
  rw [List.getD_eq_getElem?_getD, List.getElem?_eq_getElem hk]; rfl
theorem put_back {l : List Int} {k : Nat} (hk : k < l.length) : (l.take k ++ l.drop (k + 1)).take k ++ [l.getD k 0] ++ (l.take k ++ l.drop (k + 1)).drop k = l := by
  have e : (l.take k).length = k := by rw [List.length_take]; omega
  rw [List.take_append_of_le_length (Nat.le_of_eq e.symm), List.take_of_length_le (Nat.le_of_eq e), List.drop_append_of_le_length (Nat.le_of_eq e.symm), List.drop_eq_nil_of_le (Nat.le_of_eq e), List.nil_append, List.append_assoc, List.singleton_append, getD_at hk, ← List.drop_eq_getElem_cons hk, List.take_append_drop]
theorem set_back {l : List Int} {a b : Nat} (ha : a < l.length) (hb : b < l.length) (hab : a ≠ b) :
    ((((l.set a (l.getD a 0 - 1)).set b (l.getD b 0 - 1)).set a (((l.set a (l.getD a 0 - 1)).set b (l.getD b 0 - 1)).getD a 0 + 1)).set b
      ((((l.set a (l.getD a 0 - 1)).set b (l.getD b 0 - 1)).set a (((l.set a (l.getD a 0 - 1)).set b (l.getD b 0 - 1)).getD a 0 + 1)).getD b 0 + 1)) = l := by
  have e1 : ((l.set a (l.getD a 0 - 1)).set b (l.getD b 0 - 1)).getD a 0 + 1 = l.getD a 0 := by
    rw [List.getD_eq_getElem?_getD, List.getElem?_set_ne (Ne.symm hab), List.getElem?_set_self ha]; simp
  rw [e1]
  have e2 : (((l.set a (l.getD a 0 - 1)).set b (l.getD b 0 - 1)).set a (l.getD a 0)).getD b 0 + 1 = l.getD b 0 := by
    rw [List.getD_eq_getElem?_getD, List.getElem?_set_ne hab, List.getElem?_set_self (by rw [List.length_set]; exact hb)]; simp
  rw [e2]
  rw [List.set_comm _ _ hab, List.set_set, List.set_comm _ _ hab.symm, List.set_set]
  have s1 : ∀ {l : List Int} {a : Nat}, a < l.length → l.set a (l.getD a 0) = l := fun {l a} h => by
    rw [getD_at h]; exact List.set_getElem_self h
  rw [s1 ha, s1 hb]
theorem uncut_cut {ns : List Int} {k : Nat} (b4 : 4 ≤ ns.length) (b7 : ns.length ≤ 7) (hk : k < ns.length) (h : ns.getD k 0 = 1) : uncut (cutCounts ns k) k = ns := by
  have ha : ahead ns.length k < ns.length := by unfold ahead; split <;> omega
  have hb : (k + 1) % ns.length < ns.length := Nat.mod_lt _ (by omega)
  have hcase : (k + 1) % ns.length = if k + 1 = ns.length then 0 else k + 1 := by
    split
    · rename_i e; rw [e, Nat.mod_self]
    · exact Nat.mod_eq_of_lt (by omega)
  have hab : ahead ns.length k ≠ (k + 1) % ns.length := by rw [hcase]; unfold ahead; split <;> split <;> omega
  have hak : ahead ns.length k ≠ k := by unfold ahead; split <;> omega
  have hbk : (k + 1) % ns.length ≠ k := by rw [hcase]; split <;> omega
  have hm : ((ns.set (ahead ns.length k) (ns.getD (ahead ns.length k) 0 - 1)).set ((k + 1) % ns.length) (ns.getD ((k + 1) % ns.length) 0 - 1)).getD k 0 = 1 := by
    rw [List.getD_eq_getElem?_getD, List.getElem?_set_ne hbk, List.getElem?_set_ne hak, ← List.getD_eq_getElem?_getD, h]
  have p := put_back (l := (ns.set (ahead ns.length k) (ns.getD (ahead ns.length k) 0 - 1)).set ((k + 1) % ns.length) (ns.getD ((k + 1) % ns.length) 0 - 1)) (k := k) (by rw [List.length_set, List.length_set]; exact hk)
  rw [hm] at p
  unfold uncut cutCounts
  dsimp only
  rw [p, List.length_set, List.length_set]
  exact set_back ha hb hab
end Mine
end
section -- P2c
namespace Mine
theorem CR_up {f : Nat} (hf : f ≤ 3) {ns : List Int} (h : ns ∈ CR (f + 3)) {k : Nat} (hk : k < f + 4) : uncut ns k ∈ CR (f + 4) := by
  have go : ∀ {l l' : List (List Int)} {m : Nat}, (l.all fun ns => (List.range m).all fun k => l'.contains (uncut ns k)) = true → ns ∈ l → k < m → uncut ns k ∈ l' := fun h1 h2 h3 => by
    have := List.all_eq_true.mp (List.all_eq_true.mp h1 ns h2) k (List.mem_range.mpr h3)
    exact List.contains_iff_mem.mp this
  match f, hf with
  | 0, _ => exact go CR_up4 h hk
  | 1, _ => exact go CR_up5 h hk
  | 2, _ => exact go CR_up6 h hk
  | 3, _ => exact go CR_up7 h hk
theorem cut_mem : ∀ (f : Nat) (cs ns js js' : List Int), f ≤ 4 → ns.length = f + 3 → cutL f cs ns js = some js' → ns ∈ CR (f + 3)
  | 0, cs, ns, js, js', _, _, h => by
    unfold cutL at h
    split at h
    · rename_i e; rw [e]; exact .head _
    · cases h
  | f + 1, cs, ns, js, js', hf, hl, h => by
    unfold cutL at h
    split at h
    · rename_i c
      have hi : ns.idxOf 1 < ns.length := List.idxOf_lt_length_iff.mpr c.2
      have hg : ns.getD (ns.idxOf 1) 0 = 1 := by
        rw [List.getD, List.getElem?_eq_getElem hi]
        simp
      have hlen : (cutCounts ns (ns.idxOf 1)).length = f + 3 := by
        unfold cutCounts
        simp only [List.length_append, List.length_take, List.length_drop, List.length_set]
        omega
      have ih := cut_mem f _ _ _ _ (by omega) hlen h
      have := CR_up (by omega) ih (k := ns.idxOf 1) (by omega)
      rw [uncut_cut (by omega) (by omega) hi hg] at this
      exact this
    · split at h
      · rename_i e; rw [e] at hl; simp at hl
      · cases h
noncomputable def closedB (l : List Int) : Bool := match runOf l with
  | some rows => rows.length == l.length - 1 && rows.getD (rows.length - 1) [] == List.replicate l.length 1
  | none => false
noncomputable def k2 (x y : Int) : Int := y * x - 1
noncomputable def k3 (x y z : Int) : Int := z * k2 x y - x
noncomputable def k4 (x y z v : Int) : Int := v * k3 x y z - k2 x y
noncomputable def nx (d e : Int) : Int := (1 + e) / d
noncomputable def chk7 (x0 x1 x2 x3 : Int) : Bool :=
  let d0 := k4 x0 x1 x2 x3
  let e0 := k3 x0 x1 x2
  if (1 + e0) % d0 = 0 then
    let x4 := nx d0 e0
    let d1 := k4 x1 x2 x3 x4
    let e1 := k3 x1 x2 x3
    if (1 + e1) % d1 = 0 then
      let x5 := nx d1 e1
      let d2 := k4 x2 x3 x4 x5
      let e2 := k3 x2 x3 x4
      if (1 + e2) % d2 = 0 then !closedB [x0, x1, x2, x3, x4, x5, nx d2 e2] || CR7.contains [x0, x1, x2, x3, x4, x5, nx d2 e2] else true
    else true
  else true
noncomputable def chk6 (x0 x1 x2 : Int) : Bool :=
  let d0 := k3 x0 x1 x2
  let e0 := k2 x0 x1
  if (1 + e0) % d0 = 0 then
    let x3 := nx d0 e0
    let d1 := k3 x1 x2 x3
    let e1 := k2 x1 x2
    if (1 + e1) % d1 = 0 then
      let x4 := nx d1 e1
      let d2 := k3 x2 x3 x4
      let e2 := k2 x2 x3
      if (1 + e2) % d2 = 0 then !closedB [x0, x1, x2, x3, x4, nx d2 e2] || CR6.contains [x0, x1, x2, x3, x4, nx d2 e2] else true
    else true
  else true
noncomputable def chk5 (x0 x1 : Int) : Bool :=
  let d0 := k2 x0 x1
  let e0 := x0
  if (1 + e0) % d0 = 0 then
    let x2 := nx d0 e0
    let d1 := k2 x1 x2
    let e1 := x1
    if (1 + e1) % d1 = 0 then
      let x3 := nx d1 e1
      let d2 := k2 x2 x3
      let e2 := x2
      if (1 + e2) % d2 = 0 then !closedB [x0, x1, x2, x3, nx d2 e2] || CR5.contains [x0, x1, x2, x3, nx d2 e2] else true
    else true
  else true
noncomputable def chk4 (x0 : Int) : Bool :=
  let d0 := x0
  if (1 + 1) % d0 = 0 then
    let x1 := nx d0 1
    let d1 := x1
    if (1 + 1) % d1 = 0 then
      let x2 := nx d1 1
      let d2 := x2
      if (1 + 1) % d2 = 0 then !closedB [x0, x1, x2, nx d2 1] || CR4.contains [x0, x1, x2, nx d2 1] else true
    else true
  else true
noncomputable def up9 : List Int := [1, 2, 3, 4, 5, 6, 7, 8, 9]
theorem all4 : (up9.all chk4) = true := by decide +kernel
theorem all5 : (up9.all fun a => up9.all fun b => chk5 a b) = true := by decide +kernel
theorem all6 : (up9.all fun a => up9.all fun b => up9.all fun c => chk6 a b c) = true := by decide +kernel
noncomputable def row7 (a : Int) : Bool := up9.all fun b => up9.all fun c => up9.all fun d => chk7 a b c d
theorem all7_1 : row7 1 = true := by decide +kernel
theorem all7_2 : row7 2 = true := by decide +kernel
theorem all7_3 : row7 3 = true := by decide +kernel
theorem all7_4 : row7 4 = true := by decide +kernel
theorem all7_5 : row7 5 = true := by decide +kernel
theorem all7_6 : row7 6 = true := by decide +kernel
theorem all7_7 : row7 7 = true := by decide +kernel
theorem all7_8 : row7 8 = true := by decide +kernel
theorem all7_9 : row7 9 = true := by decide +kernel
theorem all7 : (up9.all row7) = true := by
  show (row7 1 && (row7 2 && (row7 3 && (row7 4 && (row7 5 && (row7 6 && (row7 7 && (row7 8 && (row7 9 && true))))))))) = true
  rw [all7_1, all7_2, all7_3, all7_4, all7_5, all7_6, all7_7, all7_8, all7_9]; rfl
end Mine
end
section -- P2d
namespace Mine
noncomputable def Closed (ring : List Int) (rows : List (List Int)) : Prop := rows.length = ring.length - 1 ∧ rows.getD (rows.length - 1) [] = List.replicate ring.length 1
theorem closedB_of {ring : List Int} {rows : List (List Int)} (hr : runOf ring = some rows) (hc : Closed ring rows) : closedB ring = true := by
  unfold closedB
  rw [hr]
  simp only [Bool.and_eq_true, beq_iff_eq]
  exact hc
theorem closedK {ring : List Int} {rows : List (List Int)} (b4 : 4 ≤ ring.length) (bnd : ∀ e ∈ ring, 1 ≤ e ∧ e ≤ 9) (hr : runOf ring = some rows) (hc : Closed ring rows) :
    (∀ i, i < ring.length → Kc (fun i => ring.getD (i % ring.length) 0) (ring.length - 2) i = 1) ∧ ∀ q, q ≤ ring.length - 2 → ∀ i, 1 ≤ Kc (fun i => ring.getD (i % ring.length) 0) q i := by
  obtain ⟨R, r1, r2, r3, r4⟩ := runOf_eq b4 bnd
  rw [hr] at r3
  cases r3
  obtain ⟨c1, c2⟩ := hc
  rw [List.length_map, List.length_range] at c1 c2
  have hR : R = ring.length - 2 := by omega
  subst hR
  refine ⟨fun i hi => ?_, r4⟩
  rw [Nat.add_sub_cancel, List.getD, List.getElem?_map, List.getElem?_range (by omega)] at c2
  have c3 : rowK ring.length (fun i => ring.getD (i % ring.length) 0) (ring.length - 2) = List.replicate ring.length 1 := c2
  have := congrArg (fun l => l.getD i 0) c3
  simp only [rowK_get hi] at this
  rw [this, List.getD, List.getElem?_replicate, if_pos hi]
  rfl
theorem nx_of {d e x : Int} (h : x * d - e = 1) (hd : 1 ≤ d) : (1 + e) % d = 0 ∧ nx d e = x := by
  have : 1 + e = x * d := by omega
  unfold nx
  rw [this]
  exact ⟨Int.mul_emod_left _ _, Int.mul_ediv_cancel _ (by omega)⟩
theorem mem9 {x : Int} (h : 1 ≤ x ∧ x ≤ 9) : x ∈ up9 := by
  have : x = 1 ∨ x = 2 ∨ x = 3 ∨ x = 4 ∨ x = 5 ∨ x = 6 ∨ x = 7 ∨ x = 8 ∨ x = 9 := by omega
  unfold up9
  simp only [List.mem_cons, List.not_mem_nil, or_false]
  exact this
theorem closed_mem {ring : List Int} {rows : List (List Int)} (b4 : 4 ≤ ring.length) (b7 : ring.length ≤ 7) (bnd : ∀ e ∈ ring, 1 ≤ e ∧ e ≤ 9) (hr : runOf ring = some rows) (hc : Closed ring rows) : ring ∈ CR ring.length := by
  obtain ⟨h, pos⟩ := closedK b4 bnd hr hc
  have hb := closedB_of hr hc
  clear hr hc
  cases lens b4 b7 with
  | l4 x0 x1 x2 x3 =>
    have m0 := mem9 (bnd x0 (by simp))
    have h0 := nx_of (show x1 * x0 - 1 = 1 from h 0 (by simp)) (pos 1 (by simp) 0)
    have h1 := nx_of (show x2 * x1 - 1 = 1 from h 1 (by simp)) (pos 1 (by simp) 1)
    have h2 := nx_of (show x3 * x2 - 1 = 1 from h 2 (by simp)) (pos 1 (by simp) 2)
    have := List.all_eq_true.mp all4 x0 m0
    unfold chk4 at this
    dsimp only at this h0 h1 h2
    rw [if_pos h0.1, h0.2, if_pos h1.1, h1.2, if_pos h2.1, h2.2, hb] at this
    exact List.contains_iff_mem.mp this
  | l5 x0 x1 x2 x3 x4 =>
    have m0 := mem9 (bnd x0 (by simp))
    have m1 := mem9 (bnd x1 (by simp))
    have h0 := nx_of (show x2 * k2 x0 x1 - x0 = 1 from h 0 (by simp)) (pos 2 (by simp) 0)
    have h1 := nx_of (show x3 * k2 x1 x2 - x1 = 1 from h 1 (by simp)) (pos 2 (by simp) 1)
    have h2 := nx_of (show x4 * k2 x2 x3 - x2 = 1 from h 2 (by simp)) (pos 2 (by simp) 2)
    have := List.all_eq_true.mp (List.all_eq_true.mp all5 x0 m0) x1 m1
    unfold chk5 at this
    dsimp only at this h0 h1 h2
    rw [if_pos h0.1, h0.2, if_pos h1.1, h1.2, if_pos h2.1, h2.2, hb] at this
    exact List.contains_iff_mem.mp this
  | l6 x0 x1 x2 x3 x4 x5 =>
    have m0 := mem9 (bnd x0 (by simp))
    have m1 := mem9 (bnd x1 (by simp))
    have m2 := mem9 (bnd x2 (by simp))
    have h0 := nx_of (show x3 * k3 x0 x1 x2 - k2 x0 x1 = 1 from h 0 (by simp)) (pos 3 (by simp) 0)
    have h1 := nx_of (show x4 * k3 x1 x2 x3 - k2 x1 x2 = 1 from h 1 (by simp)) (pos 3 (by simp) 1)
    have h2 := nx_of (show x5 * k3 x2 x3 x4 - k2 x2 x3 = 1 from h 2 (by simp)) (pos 3 (by simp) 2)
    have := List.all_eq_true.mp (List.all_eq_true.mp (List.all_eq_true.mp all6 x0 m0) x1 m1) x2 m2
    unfold chk6 at this
    dsimp only at this h0 h1 h2
    rw [if_pos h0.1, h0.2, if_pos h1.1, h1.2, if_pos h2.1, h2.2, hb] at this
    exact List.contains_iff_mem.mp this
  | l7 x0 x1 x2 x3 x4 x5 x6 =>
    have m0 := mem9 (bnd x0 (by simp))
    have m1 := mem9 (bnd x1 (by simp))
    have m2 := mem9 (bnd x2 (by simp))
    have m3 := mem9 (bnd x3 (by simp))
    have h0 := nx_of (show x4 * k4 x0 x1 x2 x3 - k3 x0 x1 x2 = 1 from h 0 (by simp)) (pos 4 (by simp) 0)
    have h1 := nx_of (show x5 * k4 x1 x2 x3 x4 - k3 x1 x2 x3 = 1 from h 1 (by simp)) (pos 4 (by simp) 1)
    have h2 := nx_of (show x6 * k4 x2 x3 x4 x5 - k3 x2 x3 x4 = 1 from h 2 (by simp)) (pos 4 (by simp) 2)
    have := List.all_eq_true.mp (List.all_eq_true.mp (List.all_eq_true.mp (List.all_eq_true.mp all7 x0 m0) x1 m1) x2 m2) x3 m3
    unfold chk7 at this
    dsimp only at this h0 h1 h2
    rw [if_pos h0.1, h0.2, if_pos h1.1, h1.2, if_pos h2.1, h2.2, hb] at this
    exact List.contains_iff_mem.mp this
end Mine
end
section -- P2
namespace Mine
noncomputable def ins (x : Int) : List Int → List Int
  | [] => [x]
  | y :: l => if x ≤ y then x :: y :: l else y :: ins x l
noncomputable def isort : List Int → List Int
  | [] => []
  | x :: l => ins x (isort l)
theorem ins_perm (x : Int) : ∀ l, (ins x l).Perm (x :: l)
  | [] => .refl _
  | y :: l => by
    unfold ins
    split
    · exact .refl _
    · exact ((ins_perm x l).cons y).trans (.swap x y l)
theorem ins_sorted {x : Int} : ∀ {l : List Int}, l.Pairwise (· ≤ ·) → (ins x l).Pairwise (· ≤ ·)
  | [], _ => List.pairwise_singleton _ _
  | y :: l, h => by
    unfold ins
    obtain ⟨h1, h2⟩ := List.pairwise_cons.mp h
    split
    · rename_i c
      refine List.pairwise_cons.mpr ⟨fun z hz => ?_, h⟩
      rcases List.mem_cons.mp hz with rfl | hz
      · exact c
      · exact Int.le_trans c (h1 z hz)
    · rename_i c
      refine List.pairwise_cons.mpr ⟨fun z hz => ?_, ins_sorted h2⟩
      rcases List.mem_cons.mp ((ins_perm x l).mem_iff.mp hz) with rfl | hz
      · omega
      · exact h1 z hz
theorem isort_perm : ∀ l, (isort l).Perm l
  | [] => .refl _
  | x :: l => (ins_perm x _).trans ((isort_perm l).cons x)
theorem isort_sorted : ∀ l, (isort l).Pairwise (· ≤ ·)
  | [] => .nil
  | _ :: l => ins_sorted (isort_sorted l)
theorem sorted_unique : ∀ {l l' : List Int}, l.Perm l' → l.Pairwise (· ≤ ·) → l'.Pairwise (· ≤ ·) → l = l'
  | [], l', p, _, _ => (List.nil_perm.mp p).symm
  | x :: l, [], p, _, _ => absurd p (by intro h; have := h.length_eq; simp at this)
  | x :: l, y :: l', p, h, h' => by
    obtain ⟨h1, h2⟩ := List.pairwise_cons.mp h
    obtain ⟨h3, h4⟩ := List.pairwise_cons.mp h'
    have e : x = y := by
      have a : y ≤ x := by
        rcases List.mem_cons.mp (p.mem_iff.mp (List.mem_cons_self (a := x) (l := l))) with e | m
        · omega
        · exact h3 x m
      have b : x ≤ y := by
        rcases List.mem_cons.mp (p.mem_iff.mpr (List.mem_cons_self (a := y) (l := l'))) with e | m
        · omega
        · exact h1 y m
      omega
    subst e
    rw [sorted_unique ((List.perm_cons x).mp p) h2 h4]
noncomputable def chkR (l : List Int) : Bool := match runOf l, cutOf l with
  | some rows, some js => rows.length == l.length - 1 && rows.getD (rows.length - 1) [] == List.replicate l.length 1 && decide (js.length ≤ 4) && decide ((onesL l.length rows).length ≤ 100) && sldOf (pairsOf l.length) (isort (onesL l.length rows)) == (dueOf l.length js, [])
  | _, _ => false
theorem chkR4 : (CR4.all chkR) = true := by decide +kernel
theorem chkR5 : (CR5.all chkR) = true := by decide +kernel
theorem chkR6 : (CR6.all chkR) = true := by decide +kernel
theorem all_cut {p : List Int → Bool} {l : List (List Int)} (n : Nat) (h1 : (l.take n).all p = true) (h2 : (l.drop n).all p = true) : l.all p = true := by
  rw [← List.take_append_drop n l, List.all_append, h1, h2]; rfl
theorem chkR7_1 : ((CR7.take 7).all chkR) = true := by decide +kernel
theorem chkR7_2 : (((CR7.drop 7).take 7).all chkR) = true := by decide +kernel
theorem chkR7_3 : ((((CR7.drop 7).drop 7).take 7).all chkR) = true := by decide +kernel
theorem chkR7_4 : (((((CR7.drop 7).drop 7).drop 7).take 7).all chkR) = true := by decide +kernel
theorem chkR7_5 : ((((((CR7.drop 7).drop 7).drop 7).drop 7).take 7).all chkR) = true := by decide +kernel
theorem chkR7_6 : (((((((CR7.drop 7).drop 7).drop 7).drop 7).drop 7).take 7).all chkR) = true := by decide +kernel
theorem chkR7_7 : (((((((CR7.drop 7).drop 7).drop 7).drop 7).drop 7).drop 7).all chkR) = true := by decide +kernel
theorem chkR7 : (CR7.all chkR) = true := all_cut 7 chkR7_1 (all_cut 7 chkR7_2 (all_cut 7 chkR7_3 (all_cut 7 chkR7_4 (all_cut 7 chkR7_5 (all_cut 7 chkR7_6 chkR7_7)))))
theorem chk_of {ring : List Int} (b4 : 4 ≤ ring.length) (b7 : ring.length ≤ 7) (h : ring ∈ CR ring.length) : chkR ring = true := by
  have : ring.length = 4 ∨ ring.length = 5 ∨ ring.length = 6 ∨ ring.length = 7 := by omega
  rcases this with e | e | e | e <;> rw [e] at h
  · exact List.all_eq_true.mp chkR4 _ h
  · exact List.all_eq_true.mp chkR5 _ h
  · exact List.all_eq_true.mp chkR6 _ h
  · exact List.all_eq_true.mp chkR7 _ h
theorem lawPlain {ring : List Int} (b4 : 4 ≤ ring.length) (b7 : ring.length ≤ 7) (bnd : ∀ e ∈ ring, 1 ≤ e ∧ e ≤ 9) : ∃ rows, runOf ring = some rows ∧ 1 ≤ rows.length ∧ rows.length ≤ ring.length - 1 ∧ (∀ row ∈ rows, row.length = ring.length) ∧
    ((Closed ring rows ∧ ∃ js, cutOf ring = some js ∧ js.length ≤ 4 ∧ (onesL ring.length rows).length ≤ 100 ∧ ∀ ones : List Int, ones.Perm (onesL ring.length rows) → ones.Pairwise (· ≤ ·) → sldOf (pairsOf ring.length) ones = (dueOf ring.length js, [])) ∨
     (¬ Closed ring rows ∧ cutOf ring = none)) := by
  obtain ⟨R, r1, r2, r3, r4⟩ := runOf_eq b4 bnd
  refine ⟨_, r3, by simp, by rw [List.length_map, List.length_range]; omega, fun row hrow => ?_, ?_⟩
  · obtain ⟨r, _, rfl⟩ := List.mem_map.mp hrow
    exact rowK_len
  have key : ring ∈ CR ring.length → Closed ring ((List.range (R + 1)).map (rowK ring.length fun i => ring.getD (i % ring.length) 0)) ∧ ∃ js, cutOf ring = some js ∧ js.length ≤ 4 ∧ (onesL ring.length ((List.range (R + 1)).map (rowK ring.length fun i => ring.getD (i % ring.length) 0))).length ≤ 100 ∧ ∀ ones : List Int, ones.Perm (onesL ring.length ((List.range (R + 1)).map (rowK ring.length fun i => ring.getD (i % ring.length) 0))) → ones.Pairwise (· ≤ ·) → sldOf (pairsOf ring.length) ones = (dueOf ring.length js, []) := fun hm => by
    have hc := chk_of b4 b7 hm
    unfold chkR at hc
    rw [r3] at hc
    cases hj : cutOf ring with
    | none => rw [hj] at hc; cases hc
    | some js =>
      rw [hj] at hc
      simp only [Bool.and_eq_true, beq_iff_eq, decide_eq_true_eq] at hc
      obtain ⟨⟨⟨⟨c1, c2⟩, c3⟩, c4⟩, c5⟩ := hc
      refine ⟨⟨c1, c2⟩, js, rfl, c3, c4, fun ones p s => ?_⟩
      rw [sorted_unique (p.trans (isort_perm _).symm) s (isort_sorted _)]
      exact c5
  by_cases hc : Closed ring ((List.range (R + 1)).map (rowK ring.length fun i => ring.getD (i % ring.length) 0))
  · exact .inl (key (closed_mem b4 b7 bnd r3 hc))
  · refine .inr ⟨hc, ?_⟩
    cases hj : cutOf ring with
    | none => rfl
    | some js =>
      refine absurd (key ?_).1 hc
      have := cut_mem (ring.length - 3) _ ring _ js (by omega) (by omega) hj
      rwa [show ring.length - 3 + 3 = ring.length by omega] at this
end Mine
end
section -- T2
namespace Mine
noncomputable def octsOf (n : Int) (sz : Nat) : List Int := ((List.range sz).map fun j : Nat => (sz : Int) - 1 + (j : Int) * (-1)).map fun k : Int => n / 256 ^ k.toNat % 256
theorem octs3 (n : Int) : octsOf n 3 = [n / 65536 % 256, n / 256 % 256, n / 1 % 256] := rfl
theorem octs4 (n : Int) : octsOf n 4 = [n / 16777216 % 256, n / 65536 % 256, n / 256 % 256, n / 1 % 256] := rfl
theorem octs5 (n : Int) : octsOf n 5 = [n / 4294967296 % 256, n / 16777216 % 256, n / 65536 % 256, n / 256 % 256, n / 1 % 256] := rfl
theorem octs6 (n : Int) : octsOf n 6 = [n / 1099511627776 % 256, n / 4294967296 % 256, n / 16777216 % 256, n / 65536 % 256, n / 256 % 256, n / 1 % 256] := rfl
section
variable {a b c d V y lc : Int}
/-- the three octets of four figures -/
theorem oct0 (hb : 0 ≤ b ∧ b < 64) (hc : 0 ≤ c ∧ c < 64) (hd : 0 ≤ d ∧ d < 64) (ha : 0 ≤ a ∧ a < 64) : (((a * 64 + b) * 64 + c) * 64 + d) / 65536 % 256 = 4 * a + b / 16 := by omega
theorem oct1a {x y : Int} : (x * 4096 + y) / 256 = x * 16 + y / 256 := by omega
theorem oct1b (hd : 0 ≤ d ∧ d < 64) : (c * 64 + d) / 256 = c / 4 := by omega
theorem oct1c (hz : 0 ≤ y ∧ y < 16) : ((a * 64 + b) * 16 + y) % 256 = b % 16 * 16 + y := by omega
theorem oct1 (hb : 0 ≤ b ∧ b < 64) (hc : 0 ≤ c ∧ c < 64) (hd : 0 ≤ d ∧ d < 64) : (((a * 64 + b) * 64 + c) * 64 + d) / 256 % 256 = b % 16 * 16 + c / 4 := by
  have e : ((a * 64 + b) * 64 + c) * 64 + d = (a * 64 + b) * 4096 + (c * 64 + d) := by omega
  rw [e, oct1a, oct1b hd]
  exact oct1c (by omega)
theorem oct2 (hc : 0 ≤ c ∧ c < 64) (hd : 0 ≤ d ∧ d < 64) : (((a * 64 + b) * 64 + c) * 64 + d) / 1 % 256 = c % 4 * 64 + d := by omega
/-- the figures back -/
theorem sign1 (ha : 0 ≤ a ∧ a < 64) (hb : 0 ≤ b ∧ b < 64) : (lc * 256 + (4 * a + b / 16)) % 65536 / 4 % 64 = a := by omega
theorem sign2 (hb : 0 ≤ b ∧ b < 64) (hc : 0 ≤ c ∧ c < 64) : ((lc * 256 + (4 * a + b / 16)) % 65536 * 256 + (b % 16 * 16 + c / 4)) % 65536 / 16 % 64 = b := by omega
theorem sign3 (hc : 0 ≤ c ∧ c < 64) (hd : 0 ≤ d ∧ d < 64) : ((lc * 256 + (y * 16 + c / 4)) % 65536 * 256 + (c % 4 * 64 + d)) % 65536 / 64 % 64 = c := by omega
theorem sign4 (hd : 0 ≤ d ∧ d < 64) : (lc * 256 + (y * 64 + d)) % 65536 % 64 = d := by omega
end
noncomputable def grp (a b c d : Int) : Int := ((a * 64 + b) * 64 + c) * 64 + d
/-- the octets of a number that is put together of groups -/
theorem sh1 {V y : Int} (h : 0 ≤ y ∧ y < 256) : (V * 256 + y) / 16777216 = V / 65536 ∧ (V * 256 + y) / 65536 = V / 256 ∧ (V * 256 + y) / 256 = V / 1 ∧ (V * 256 + y) / 1 % 256 = y := ⟨by omega, by omega, by omega, by omega⟩
theorem sh2 {V y : Int} (h : 0 ≤ y ∧ y < 65536) : (V * 65536 + y) / 4294967296 = V / 65536 ∧ (V * 65536 + y) / 16777216 = V / 256 ∧ (V * 65536 + y) / 65536 = V / 1 ∧ (V * 65536 + y) / 256 % 256 = y / 256 % 256 ∧ (V * 65536 + y) / 1 % 256 = y / 1 % 256 := ⟨by omega, by omega, by omega, by omega, by omega⟩
theorem sh3 {V y : Int} (h : 0 ≤ y ∧ y < 16777216) : (V * 16777216 + y) / 1099511627776 = V / 65536 ∧ (V * 16777216 + y) / 4294967296 = V / 256 ∧ (V * 16777216 + y) / 16777216 = V / 1 ∧ (V * 16777216 + y) / 65536 % 256 = y / 65536 % 256 ∧ (V * 16777216 + y) / 256 % 256 = y / 256 % 256 ∧ (V * 16777216 + y) / 1 % 256 = y / 1 % 256 := ⟨by omega, by omega, by omega, by omega, by omega, by omega⟩
theorem b64_3 (a b c : Int) : (b64Of [a, b, c]).take 4 = [b64T ((0 * 256 + a) % 65536 / 4 % 64), b64T (((0 * 256 + a) % 65536 * 256 + b) % 65536 / 16 % 64), b64T ((((0 * 256 + a) % 65536 * 256 + b) % 65536 * 256 + c) % 65536 / 64 % 64), b64T ((((0 * 256 + a) % 65536 * 256 + b) % 65536 * 256 + c) % 65536 % 64)] := rfl
theorem read4 (a b c d : Int) (ha : 0 ≤ a ∧ a < 64) (hb : 0 ≤ b ∧ b < 64) (hc : 0 ≤ c ∧ c < 64) (hd : 0 ≤ d ∧ d < 64) : (b64Of (octsOf (numOf [a, b, c, d] * 1) 3)).take 4 = [a, b, c, d].map b64T := by
  have e : numOf [a, b, c, d] * 1 = ((a * 64 + b) * 64 + c) * 64 + d := by simp only [numOf, List.foldl]; omega
  rw [octs3, e, oct0 hb hc hd ha, oct1 hb hc hd, oct2 hc hd, b64_3, sign1 ha hb, sign2 hb hc, sign3 hc hd, sign4 hd]
  rfl
theorem b64_4 (x0 x1 x2 x3 : Int) : (b64Of [x0, x1, x2, x3]).take 5 = [b64T (((0 * 256 + x0) % 65536) / 4 % 64), b64T (((((0 * 256 + x0) % 65536) * 256 + x1) % 65536) / 16 % 64), b64T (((((((0 * 256 + x0) % 65536) * 256 + x1) % 65536) * 256 + x2) % 65536) / 64 % 64), b64T (((((((0 * 256 + x0) % 65536) * 256 + x1) % 65536) * 256 + x2) % 65536) % 64), b64T (((((((((0 * 256 + x0) % 65536) * 256 + x1) % 65536) * 256 + x2) % 65536) * 256 + x3) % 65536) / 4 % 64)] := rfl
theorem read5 (a b c d e : Int) (ha : 0 ≤ a ∧ a < 64) (hb : 0 ≤ b ∧ b < 64) (hc : 0 ≤ c ∧ c < 64) (hd : 0 ≤ d ∧ d < 64) (he : 0 ≤ e ∧ e < 64) : (b64Of (octsOf (numOf [a, b, c, d, e] * 4) 4)).take 5 = [a, b, c, d, e].map b64T := by
  have q : numOf [a, b, c, d, e] * 4 = (((a * 64 + b) * 64 + c) * 64 + d) * 256 + (4 * e + 0 / 16) := by simp only [numOf, List.foldl]; omega
  have s := sh1 (V := ((a * 64 + b) * 64 + c) * 64 + d) (y := 4 * e + 0 / 16) (by omega)
  rw [octs4, q, s.1, s.2.1, s.2.2.1, s.2.2.2, oct0 hb hc hd ha, oct1 hb hc hd, oct2 hc hd, b64_4, sign1 ha hb, sign2 hb hc, sign3 hc hd, sign4 hd, sign1 he (by decide)]
  rfl
theorem b64_5 (x0 x1 x2 x3 x4 : Int) : (b64Of [x0, x1, x2, x3, x4]).take 6 = [b64T (((0 * 256 + x0) % 65536) / 4 % 64), b64T (((((0 * 256 + x0) % 65536) * 256 + x1) % 65536) / 16 % 64), b64T (((((((0 * 256 + x0) % 65536) * 256 + x1) % 65536) * 256 + x2) % 65536) / 64 % 64), b64T (((((((0 * 256 + x0) % 65536) * 256 + x1) % 65536) * 256 + x2) % 65536) % 64), b64T (((((((((0 * 256 + x0) % 65536) * 256 + x1) % 65536) * 256 + x2) % 65536) * 256 + x3) % 65536) / 4 % 64), b64T (((((((((((0 * 256 + x0) % 65536) * 256 + x1) % 65536) * 256 + x2) % 65536) * 256 + x3) % 65536) * 256 + x4) % 65536) / 16 % 64)] := rfl
theorem low2 {e f : Int} (he : 0 ≤ e ∧ e < 64) (hf : 0 ≤ f ∧ f < 64) : (e * 1024 + f * 16) / 256 % 256 = 4 * e + f / 16 ∧ (e * 1024 + f * 16) / 1 % 256 = f % 16 * 16 + 0 / 4 ∧ 0 ≤ e * 1024 + f * 16 ∧ e * 1024 + f * 16 < 65536 := ⟨by omega, by omega, by omega, by omega⟩
theorem read6 (a b c d e f : Int) (ha : 0 ≤ a ∧ a < 64) (hb : 0 ≤ b ∧ b < 64) (hc : 0 ≤ c ∧ c < 64) (hd : 0 ≤ d ∧ d < 64) (he : 0 ≤ e ∧ e < 64) (hf : 0 ≤ f ∧ f < 64) : (b64Of (octsOf (numOf [a, b, c, d, e, f] * 16) 5)).take 6 = [a, b, c, d, e, f].map b64T := by
  have q : numOf [a, b, c, d, e, f] * 16 = (((a * 64 + b) * 64 + c) * 64 + d) * 65536 + (e * 1024 + f * 16) := by simp only [numOf, List.foldl]; omega
  have l := low2 he hf
  have s := sh2 (V := ((a * 64 + b) * 64 + c) * 64 + d) l.2.2
  rw [octs5, q, s.1, s.2.1, s.2.2.1, s.2.2.2.1, s.2.2.2.2, l.1, l.2.1, oct0 hb hc hd ha, oct1 hb hc hd, oct2 hc hd, b64_5, sign1 ha hb, sign2 hb hc, sign3 hc hd, sign4 hd, sign1 he hf, sign2 hf (by decide)]
  rfl
theorem b64_6 (x0 x1 x2 x3 x4 x5 : Int) : (b64Of [x0, x1, x2, x3, x4, x5]).take 7 = [b64T (((0 * 256 + x0) % 65536) / 4 % 64), b64T (((((0 * 256 + x0) % 65536) * 256 + x1) % 65536) / 16 % 64), b64T (((((((0 * 256 + x0) % 65536) * 256 + x1) % 65536) * 256 + x2) % 65536) / 64 % 64), b64T (((((((0 * 256 + x0) % 65536) * 256 + x1) % 65536) * 256 + x2) % 65536) % 64), b64T (((((((((0 * 256 + x0) % 65536) * 256 + x1) % 65536) * 256 + x2) % 65536) * 256 + x3) % 65536) / 4 % 64), b64T (((((((((((0 * 256 + x0) % 65536) * 256 + x1) % 65536) * 256 + x2) % 65536) * 256 + x3) % 65536) * 256 + x4) % 65536) / 16 % 64), b64T (((((((((((((0 * 256 + x0) % 65536) * 256 + x1) % 65536) * 256 + x2) % 65536) * 256 + x3) % 65536) * 256 + x4) % 65536) * 256 + x5) % 65536) / 64 % 64)] := rfl
theorem grpB {e f g : Int} (he : 0 ≤ e ∧ e < 64) (hf : 0 ≤ f ∧ f < 64) (hg : 0 ≤ g ∧ g < 64) : 0 ≤ ((e * 64 + f) * 64 + g) * 64 + 0 ∧ ((e * 64 + f) * 64 + g) * 64 + 0 < 16777216 := ⟨by omega, by omega⟩
theorem read7 (a b c d e f g : Int) (ha : 0 ≤ a ∧ a < 64) (hb : 0 ≤ b ∧ b < 64) (hc : 0 ≤ c ∧ c < 64) (hd : 0 ≤ d ∧ d < 64) (he : 0 ≤ e ∧ e < 64) (hf : 0 ≤ f ∧ f < 64) (hg : 0 ≤ g ∧ g < 64) : (b64Of (octsOf (numOf [a, b, c, d, e, f, g] * 64) 6)).take 7 = [a, b, c, d, e, f, g].map b64T := by
  have q : numOf [a, b, c, d, e, f, g] * 64 = (((a * 64 + b) * 64 + c) * 64 + d) * 16777216 + (((e * 64 + f) * 64 + g) * 64 + 0) := by simp only [numOf, List.foldl]; omega
  have s := sh3 (V := ((a * 64 + b) * 64 + c) * 64 + d) (grpB he hf hg)
  have z : (0 : Int) ≤ 0 ∧ (0 : Int) < 64 := by decide
  rw [octs6, q, s.1, s.2.1, s.2.2.1, s.2.2.2.1, s.2.2.2.2.1, s.2.2.2.2.2, oct0 hb hc hd ha, oct1 hb hc hd, oct2 hc hd, oct0 hf hg z he, oct1 hf hg z, oct2 hg z, b64_6, sign1 ha hb, sign2 hb hc, sign3 hc hd, sign4 hd, sign1 he hf, sign2 hf hg, sign3 hg z]
  rfl
theorem readMath {ring : List Int} (n4 : 4 ≤ ring.length) (n7 : ring.length ≤ 7) (hr : ∀ e ∈ ring, 0 ≤ e ∧ e < 64) {sz pw nn : Int} (esz : sz = (6 * (ring.length : Int) + 7) / 8) (epw : pw = 2 ^ (8 * sz - 6 * (ring.length : Int)).toNat) (enn : nn = numOf ring * pw) :
    (b64Of (List.map (fun k : Int => nn / 256 ^ k.toNat % 256) (List.map (fun j : Nat => sz - 1 + (j : Int) * (-1)) (List.range sz.toNat)))).take ring.length = ring.map b64T := by
  subst enn
  cases lens n4 n7 with
  | l4 a b c d =>
    have e3 : sz = 3 := by (simp only [List.length_cons, List.length_nil] at esz; omega)
    subst e3
    have e1 : pw = 1 := by rw [epw]; rfl
    subst e1
    exact read4 a b c d (hr _ (by simp)) (hr _ (by simp)) (hr _ (by simp)) (hr _ (by simp))
  | l5 a b c d e =>
    have e3 : sz = 4 := by (simp only [List.length_cons, List.length_nil] at esz; omega)
    subst e3
    have e1 : pw = 4 := by rw [epw]; rfl
    subst e1
    exact read5 a b c d e (hr _ (by simp)) (hr _ (by simp)) (hr _ (by simp)) (hr _ (by simp)) (hr _ (by simp))
  | l6 a b c d e f =>
    have e3 : sz = 5 := by (simp only [List.length_cons, List.length_nil] at esz; omega)
    subst e3
    have e1 : pw = 16 := by rw [epw]; rfl
    subst e1
    exact read6 a b c d e f (hr _ (by simp)) (hr _ (by simp)) (hr _ (by simp)) (hr _ (by simp)) (hr _ (by simp)) (hr _ (by simp))
  | l7 a b c d e f g =>
    have e3 : sz = 6 := by (simp only [List.length_cons, List.length_nil] at esz; omega)
    subst e3
    have e1 : pw = 64 := by rw [epw]; rfl
    subst e1
    exact read7 a b c d e f g (hr _ (by simp)) (hr _ (by simp)) (hr _ (by simp)) (hr _ (by simp)) (hr _ (by simp)) (hr _ (by simp)) (hr _ (by simp))
end Mine
end
section -- Comp2
open PySem PySem.W PyProof.Rows PySem.Spec PySem.Calls
namespace Mine
/-- a list comprehension of two clauses, the second with one test -/
noncomputable abbrev C2 (elt t1 i1 t2 i2 c : Expr) (scope : Scope) (pos : Pos) : Expr := .ListComp elt [⟨t1, i1, [], 0⟩, ⟨t2, i2, [c], 0⟩] scope pos
section
variable {elt t1 i1 t2 i2 c : Expr} {scope : Scope} {pos : Pos} {it acc : Value} {env : Env}
theorem turn0 : compTurn (C2 elt t1 i1 t2 i2 c scope pos) 0 it acc env = (standAt i1.pos >>= fun _ => pyNext it >>= fun r => match r with
      | none => pure (.done .next)
      | some v => letOwnedTupleGo t1 it v >>= fun _ => assign t1 env v >>= fun _ =>
        eval i2 env >>= fun x => standAt i2.pos >>= fun _ => foldedSetIterable i2 env x >>= fun x => holding [x] (pyIter x) >>= fun j => runOwn (.compStart (C2 elt t1 i1 t2 i2 c scope pos) 1 j acc env) env >>= fun _ =>
          again (.compLoop (C2 elt t1 i1 t2 i2 c scope pos) 0 it acc env)) := by rfl
theorem turn1 : compTurn (C2 elt t1 i1 t2 i2 c scope pos) 1 it acc env = (standAt i2.pos >>= fun _ => pyNext it >>= fun r => match r with
      | none => pure (.done .next)
      | some v => letOwnedTupleGo t2 it v >>= fun _ => assign t2 env v >>= fun _ =>
        (forIn [c] true fun c r => if r = true then do let ok ← isTrue c env (eval c env); pure (ForInStep.yield ok) else pure (ForInStep.yield r)) >>= fun ok =>
        if ok = true then (eval elt env >>= fun x => call (.builtin "list.append") [acc, x] >>= fun _ => pure ()) >>= fun _ => again (.compLoop (C2 elt t1 i1 t2 i2 c scope pos) 1 it acc env)
        else again (.compLoop (C2 elt t1 i1 t2 i2 c scope pos) 1 it acc env)) := by rfl
end
section
variable {prog : Program} {w : World} {A : Around} {E : Value → Shared → Prop} {R : Result → Shared → Prop} {s : Shared} {elt t1 i1 t2 i2 c : Expr} {scope : Scope} {pos : Pos} {it acc : Value} {env : Env}
theorem start1 (h0 : codeAny (model prog w) A (.compLoop (C2 elt t1 i1 t2 i2 c scope pos) 1 it acc env) R s)
    (h : wpAny (model prog w) A (pyIter it) (fun it' s' => codeAny (model prog w) A (.compLoop (C2 elt t1 i1 t2 i2 c scope pos) 1 it' acc env) R s')
      (notedBy (model prog w) A env fun x s' => R (.error x) s') s) :
    codeAny (model prog w) A (.compStart (C2 elt t1 i1 t2 i2 c scope pos) 1 it acc env) R s := by
  refine codeAny_of_tree ?_
  show wpAny _ _ ((compStart (C2 elt t1 i1 t2 i2 c scope pos) 1 it acc env).onRaise (fun x => do noteFrame x env; standAt theWindowsPlace)) _ _ s
  refine wpAny_notedAt ?_
  unfold compStart
  show wpAny _ _ (ask >>= _) _ _ s
  refine wpAny_bind (wpAny_askSetting (wpAny_ite ?_))
  split
  · first
      | exact wpAny_bind (wpAny_pure (wpAny_pure (And.intro rfl h0)))
      | exact wpAny_pure (And.intro rfl h0)
  · first
      | exact wpAny_bind (wpAny_rule (wpAny_bind (wpAny_standAt (wpAny_bind (wpAny_mono h (fun it' s' h' => wpAny_pure (And.intro rfl h')) fun _ _ x => x)))))
      | (refine wpAny_bind (wpAny_rule ?_); show wpAny _ _ (standAt i2.pos >>= _) _ _ s; exact wpAny_bind (wpAny_standAt (wpAny_bind (wpAny_mono h (fun it' s' h' => wpAny_pure (And.intro rfl h')) fun _ _ x => x))))
theorem loop1 (I : Nat → Shared → Prop)
    (turn : ∀ n s, I n s → wpAny (model prog w) A (pyNext it) (fun r s₁ => match r with
      | none => R (.ok .next) s₁
      | some v => wpAny (model prog w) A (assign t2 env v) (fun _ s₂ =>
          wpAny (model prog w) A (isTrue c env (eval c env)) (fun ok s₃ =>
            if ok = true then wpAny (model prog w) A (eval elt env) (fun x s₄ =>
              wpAny (model prog w) A (call (.builtin "list.append") [acc, x]) (fun _ s₅ => ∃ m, m < n ∧ I m s₅) (notedBy (model prog w) A env fun e s' => R (.error e) s') s₄) (notedBy (model prog w) A env fun e s' => R (.error e) s') s₃
            else ∃ m, m < n ∧ I m s₃) (notedBy (model prog w) A env fun e s' => R (.error e) s') s₂) (notedBy (model prog w) A env fun e s' => R (.error e) s') s₁) (notedBy (model prog w) A env fun e s' => R (.error e) s') s)
    (n : Nat) (h : I n s) (ht : ∀ v, letOwnedTupleGo t2 it v = pure () := by intro _; rfl) :
    codeAny (model prog w) A (.compLoop (C2 elt t1 i1 t2 i2 c scope pos) 1 it acc env) R s := by
  refine codeAny_loop rfl I (fun n s hI => ?_) n h
  show wpAny _ A ((compTurn (C2 elt t1 i1 t2 i2 c scope pos) 1 it acc env).onRaise (fun x => do noteFrame x env; theTreesLotGoes x)) _ _ s
  refine wpAny_noted ?_
  rw [turn1]
  refine wpAny_bind (wpAny_standAt (wpAny_bind (wpAny_mono (turn n s hI) (fun r s₁ h₁ => ?_) fun _ _ h' => h')))
  cases r with
  | none => exact wpAny_pure h₁
  | some v =>
    refine wpAny_bind (wpAny_of_eq (ht v) ?_)
    refine wpAny_bind (wpAny_mono h₁ (fun _ s₂ h₂ => wpAny_bind (wpAny_mono (wpAny_tests_one h₂) (fun ok s₃ h₃ => ?_) fun _ _ h' => h')) fun _ _ h' => h')
    cases ok with
    | false => exact wpAny_pure ⟨rfl, h₃⟩
    | true =>
      exact wpAny_bind (wpAny_bind (wpAny_mono h₃ (fun x s₄ h₄ => wpAny_bind (wpAny_mono h₄ (fun _ s₅ h₅ => wpAny_pure (wpAny_pure ⟨rfl, h₅⟩)) fun _ _ h' => h')) fun _ _ h' => h'))
theorem loop0 (I : Nat → Shared → Prop)
    (turn : ∀ n s, I n s → wpAny (model prog w) A (pyNext it) (fun r s₁ => match r with
      | none => R (.ok .next) s₁
      | some v => wpAny (model prog w) A (assign t1 env v) (fun _ s₂ =>
          wpAny (model prog w) A (eval i2 env) (fun x s₃ => wpAny (model prog w) A (pyIter x) (fun j s₄ =>
            codeAny (model prog w) (A.mark none) (.compStart (C2 elt t1 i1 t2 i2 c scope pos) 1 j acc env) (fun r s₅ => match r with
              | .ok _ => ∃ m, m < n ∧ I m s₅
              | .error e => cameBackBy (model prog w) A env (notedBy (model prog w) A env fun e s' => R (.error e) s') e s₅) s₄) (notedBy (model prog w) A env fun e s' => R (.error e) s') s₃)
            (notedBy (model prog w) A env fun e s' => R (.error e) s') s₂) (notedBy (model prog w) A env fun e s' => R (.error e) s') s₁) (notedBy (model prog w) A env fun e s' => R (.error e) s') s)
    (n : Nat) (h : I n s) (ht : ∀ v, letOwnedTupleGo t1 it v = pure () := by intro _; rfl) (hs : ∀ x, foldedSetIterable i2 env x = pure x := by intro _; rfl) :
    codeAny (model prog w) A (.compLoop (C2 elt t1 i1 t2 i2 c scope pos) 0 it acc env) R s := by
  refine codeAny_loop rfl I (fun n s hI => ?_) n h
  show wpAny _ A ((compTurn (C2 elt t1 i1 t2 i2 c scope pos) 0 it acc env).onRaise (fun x => do noteFrame x env; theTreesLotGoes x)) _ _ s
  refine wpAny_noted ?_
  rw [turn0]
  refine wpAny_bind (wpAny_standAt (wpAny_bind (wpAny_mono (turn n s hI) (fun r s₁ h₁ => ?_) fun _ _ h' => h')))
  cases r with
  | none => exact wpAny_pure h₁
  | some v =>
    refine wpAny_bind (wpAny_of_eq (ht v) ?_)
    refine wpAny_bind (wpAny_mono h₁ (fun _ s₂ h₂ => wpAny_bind (wpAny_mono h₂ (fun x s₃ h₃ => ?_) fun _ _ h' => h')) fun _ _ h' => h')
    refine wpAny_bind (wpAny_standAt (wpAny_bind (wpAny_of_eq (hs x) (wpAny_bind (wpAny_holding (wpAny_mono h₃ (fun j s₄ h₄ => ?_) fun _ _ h' => h'))))))
    refine wpAny_bind (wpAny_runOwn (codeAny_mono h₄ fun r s₅ h₅ => ?_))
    cases r with
    | ok f => exact wpAny_pure ⟨rfl, h₅⟩
    | error e => exact h₅
end
end Mine
end
theorem Mine.freshC8i : True := by
  w_top off
  trivial
section -- C8i
open PySem PySem.W PyProof.Rows PySem.Spec PySem.Calls
namespace Mine
section
variable {w : World} {g : Heap} {p : Program} {loose : List Str} {mean : ExcName → Option Value} {mg mb : Str → Option Value} {s : Shared} {A : Around} {E : Value → Shared → Prop} {Q : Value → Shared → Prop} {L fa : Addr} {qual : Str} {cd : Value} {m : Mp} {sc : Scope} {news : List (Addr × Obj)} {t : Int} {u : Tok} {p1 p2 p3 p4 p5 p6 p7 p8 : Pos}
local macro_rules | `(tactic| walk_at "eval Name") => `(tactic| refine nameX_L (by assumption) (by assumption) ?_ (by assumption) (by assumption))
set_option maxRecDepth 100000 in
set_option maxHeartbeats 4000000 in
theorem ifA (X : (hd.heap_39 w.params).In g) (T : Top p loose mean mg mb g) (F : Fr g L s.heap m) (N : News g L s.heap news) (hv : m (Str.ofString "told") = some (.int t u)) (hk : sc.kind = .function) (hx : (envX qual sc L fa cd []).kindOf (Str.ofString "told") = some .local)
    (h : ∀ tok tk, Q (.int (if t > 13 then 0 else 1) tok) { s with toks := tk }) :
    wpAny (model prog0 w) A (eval (.IfExp (.Compare (.Name (Str.ofString "told") p1) [.Gt] [.Constant (.int 13) 0 p2] p3) (.Constant (.int 0) 0 p5) (.Constant (.int 1) 0 p6) p8) (envX qual sc L fa cd [])) Q E s := by
  revert X; unfold prog0; k_fill; intro X
  k_steps
  · rename_i hc; rw [if_pos hc] at h; exact h _ _
  · rename_i hc; rw [if_neg hc] at h; exact h _ _
set_option maxRecDepth 100000 in
set_option maxHeartbeats 4000000 in
theorem ifB (X : (hd.heap_39 w.params).In g) (T : Top p loose mean mg mb g) (F : Fr g L s.heap m) (N : News g L s.heap news) (hv : m (Str.ofString "told") = some (.int t u)) (hk : sc.kind = .function) (hx : (envX qual sc L fa cd []).kindOf (Str.ofString "told") = some .local)
    (h : ∀ tok tk, Q (.int (if 11 < t ∧ t < 14 then 0 else 1) tok) { s with toks := tk }) :
    wpAny (model prog0 w) A (eval (.IfExp (.Compare (.Constant (.int 11) 0 p1) [.Lt, .Lt] [.Name (Str.ofString "told") p2, .Constant (.int 14) 0 p3] p4) (.Constant (.int 0) 0 p5) (.Constant (.int 1) 0 p6) p8) (envX qual sc L fa cd [])) Q E s := by
  revert X; unfold prog0; k_fill; intro X
  k_steps
  · rename_i h1 h2; rw [if_pos ⟨h1, h2⟩] at h; exact h _ _
  · rename_i h1 h2; rw [if_neg fun q => h2 q.2] at h; exact h _ _
  · rename_i h1; rw [if_neg fun q => h1 q.1] at h; exact h _ _
end
end Mine
end
theorem Mine.freshC1 : True := by
  w_top off
  trivial
section -- C1
open PySem PySem.W PyProof.Rows PySem.Spec PySem.Calls
namespace Mine
local macro_rules | `(tactic| walk_at "idle") => `(tactic| fail)
local macro_rules | `(tactic| walk_at "execs cons") => `(tactic| (k_here; (try dsimp only); (try k_fold); (try k_gentoks); refine wpAny_execs_cons ?_))
set_option maxRecDepth 100000 in
set_option maxHeartbeats 8000000 in
theorem div2n1n {w : World} {hb : Heap} {p : Program} {loose : List Str} {mean : ExcName → Option Value} {mg mb : Str → Option Value}
   {A : Around} {s : Shared} {Q E : Value → Shared → Prop} {x y n : Int} {t1 t2 t3 : Tok}
   (X : (hd.heap_39 w.params).In hb) (T : Top p loose mean mg mb hb) (st : hb.StaysIn s.heap)
   (hdp : A.depth + 5 < recursionLimit) (h1 : 0 < y) (hpl : Builtin.divisionGoesByPylong x y = false) (hbits : (Builtin.Int.intBits x : Int) - n ≤ 4000)
   (hret : ∀ t h' tk' t1 t2, s.heap.get? t = none → s.heap.StaysIn h' → h'.get? t = some (tupObj [.int (x.fdiv y) t1, .int (x.fmod y) t2]) → Q (.ref t) { s with heap := h', toks := tk' }) :
    wpAny (model prog0 w) A (call (.ref 28) [.int x t1, .int y t2, .int n t3]) Q E s := by
  revert X; unfold prog0; k_fill; intro X
  have hn : ∀ q ∈ ([] : List (Addr × Obj)), s.heap.get? q.1 = some q.2 ∧ hb.get? q.1 = none := fun _ h => nomatch h
  k_dflt ( refine' wpAny_call (enterX ?k1 ?k2 ?k3 ?k4 ?k6 ?k7 ?k8 ?k9 ?kB ?_ ?c5 ?c2 ?c3 ?c4); (case k1 => assumption); (case k2 => assumption); (case k3 => assumption); (case k4 => assumption); (case k6 => k_is); (case k7 => k_is); (case k8 => omega); skip; (case k9 => exact BindsTo.of_eq rfl); (case kB => exact locs rfl); (case c5 => decide); (case c2 => exact rfl); (case c3 => exact rfl); (case c4 => exact rfl); intro g' L' h' G' S' l' F' N' X' T' st'; (try dsimp only); (try k_fold))
  k_steps
  refine divmod_N (by assumption) (by assumption) (by omega) ?_ (Or.inl hpl)
  intro h2 F2 N2
  k_steps
  rename Grow _ _ _ => G'
  exact hret _ _ _ _ _ (G'.fresh (N2.fresh (.head _)) (fun h => nomatch h)) (fun b o e => F2.keep b o (G'.stays b o e)) (N2.get (.head _))
end Mine
end
section
open PySem PySem.W PyProof.Rows PySem.Spec PySem.Calls Mine
local macro_rules | `(tactic| walk_at "eval Name") => `(tactic| (k_here; k_dflt (refine' nameFB ?F ?c ?o ?d ?_ ?a ?b; (case a => rfl); (case b => rfl); (case F => k_asm); (case c => rfl); (case o => assumption); (case d => assumption); k_whole)))
local macro_rules | `(tactic| walk_at "binaryOp LShift int int") => `(tactic| (refine lshiftH ?_ ?_ ?_; rotate_left 2; intro _ _))
local macro_rules | `(tactic| walk_at "binaryOp Mult int int") => `(tactic| (refine mulH ?_ ?_; rotate_left 1; intro _ _))
theorem Mine.freshC2 : True := by
  w_top off
  trivial
section -- C2
open PySem PySem.W PyProof.Rows PySem.Spec PySem.Calls
namespace Mine
section
local macro_rules | `(tactic| walk_at "callWith ref") => `(tactic| (k_here; k_dflt (refine' callWith_F (by exact fnAtB (by assumption) (by assumption)) ?_; k_whole)))
local macro_rules | `(tactic| walk_at "And") => `(tactic| ((with_reducible show FnAt _ _ ∧ _); refine ⟨fnAtB (by assumption) (by assumption), ?_⟩; try dsimp only [List.nil_append, List.cons_append]))
local macro_rules | `(tactic| walk_at "binaryOp RShift int int") => `(tactic| (refine rshift1 ?_; intro _ _))
set_option maxRecDepth 100000 in
set_option maxHeartbeats 8000000 in
theorem d2iInner {w : World} {hb : Heap} {p : Program} {loose : List Str} {mean : ExcName → Option Value} {mg mb : Str → Option Value}
   (X : (hd.heap_39 w.params).In hb) (T : Top p loose mean mg mb hb)
   {params : Arguments} {body : List Stmt} {scope : Scope} (hP : params = fParams d2iIn) (hB : body = fBody d2iIn) (hS : scope = fScope d2iIn)
   {n : Nat} {tn : Tok} {f c' cD cI cN dl : Addr} {doc pm ctv : Value} {qual : Str} {oD oI oN : Obj} {vs : List Value} {ns : List Int}
   (dD : oD.data = .cell (some (.ref dl))) (dI : oI.data = .cell (some (.ref f))) (dN : oN.data = .cell (some (.int n tn))) (hi : IntsAre vs ns)
   (hn1 : n ≤ 200) (hlen : ns.length ≤ 200) (hds : ∀ d ∈ ns, 0 ≤ d ∧ d < 2 ^ 200) :
   ∀ (k : Nat) {A : Around} {s : Shared} {Q E : Value → Shared → Prop} {lo : Nat} {a b : Int} {t1 t2 : Tok}, a = lo → b = lo + k → 1 ≤ k → lo + k ≤ ns.length →
   hb.StaysIn s.heap → s.heap.get? f = some (fnMade (Str.ofString "inner") qual params body scope [(Str.ofString "n", cN), (Str.ofString "inner", cI), (Str.ofString "digits", cD)] doc pm c' ctv) →
   s.heap.CodeRec (.ref c') qual → s.heap.get? cD = some oD → s.heap.get? cI = some oI → s.heap.get? cN = some oN → s.heap.IsList dl vs.toArray →
   A.depth + k < recursionLimit →
   (∀ h' tk' t, s.heap.StaysIn h' → Q (.int (dval (2 ^ n) (seg ns lo k)) t) { s with heap := h', toks := tk' }) →
    wpAny (model prog0 w) A (call (.ref f) [.int a t1, .int b t2]) Q E s := by
  revert X; unfold prog0; k_fill; intro X
  conv at hP => rhs; whnf
  conv at hB => rhs; whnf
  conv at hS => rhs; whnf
  subst hP hB hS
  intro k
  induction k using Nat.strongRecOn with
  | ind k IH =>
  intro A s Q E lo a b t1 t2 ha hbb hk hle st hf hc hD hI hN hl hdp hret
  k_dflt ( refine' wpAny_call (enterF (news := []) (by assumption) (by assumption) (by assumption) (by exact fun _ h => nomatch h) (by assumption) (by assumption) (by omega) (by exact BindsTo.of_eq rfl) (by exact locs rfl) ?_ (by decide) (by exact rfl) (by exact rfl) (by exact rfl)))
  intro g L' h' G S l F N X' T' st' l1
  have gs := G.stays
  have hf' := gs _ _ hf
  have hD' := gs _ _ hD
  have hI' := gs _ _ hI
  have hN' := gs _ _ hN
  have hl' : g.IsList dl vs.toArray := hl.at fun o e => gs _ _ e
  try dsimp only
  try k_fold
  k_steps
  · rename_i he _
    have hk1 : k = 1 := by omega
    subst hk1
    have e : ns.getD a.toNat 0 = dval (2 ^ n) (seg ns lo 1) := by
      rw [seg_one (by omega), dval_one, ha]; rfl
    rw [e]
    exact hret _ _ _ fun b o e => F.keep b o (gs b o e)
  · rename_i hne mid hmid h1 sh hsh h2 F2 N2
    have hk2 := two_of ha hbb hk hne
    obtain ⟨f1, f2, f3, f4, f5, f6, f7, f8, f9⟩ := halves hk2 hle
    obtain ⟨g1, g2, g3, g4, g5⟩ := mids ha hbb hk2 hmid
    refine IH (k - k / 2) (by omega) (lo := lo + k / 2) (by omega) (by omega) (by omega) (by omega) (fun b o e => F2.keep b o (st' b o e)) (F2.keep _ _ hf') (hc.keeps fun b o e => F2.keep b o (gs b o e)) (F2.keep _ _ hD') (F2.keep _ _ hI') (F2.keep _ _ hN') (hl'.at fun o e => F2.keep _ _ e) (by simp only [depth_deeper]; omega) ?_
    intro h3 tk3 t3 st3
    have F3 := frStays F2 st3
    have N3 := newsStays N2 st3
    clear F2 N2
    have hsh' : sh = ((k / 2 * n : Nat) : Int) := by
      rw [hsh, show mid - a = ((k / 2 : Nat) : Int) by omega]; push_cast; rfl
    have hshN : sh.toNat = k / 2 * n := by rw [hsh']; rfl
    have bd : ∀ d ∈ seg ns (lo + k / 2) (k - k / 2), 0 ≤ d ∧ d < 2 ^ 200 := fun d h => hds d (List.mem_of_mem_drop (List.mem_of_mem_take h))
    have hlen' := seg_length (ns := ns) (lo := lo + k / 2) (k := k - k / 2) (by omega)
    have bs := dval_bounds n 200 _ bd
    rw [hlen'] at bs
    have small : (n + 1) * (k - k / 2) ≤ 201 * 200 := Nat.mul_le_mul (by omega) (by omega)
    have small2 : k / 2 * n ≤ 200 * 200 := Nat.mul_le_mul (by omega) (by omega)
    k_steps
    · rename_i v hv
      refine IH (k / 2) (by omega) (lo := lo) ha (by omega) (by omega) (by omega) (fun b o e => F3.keep b o (st' b o e)) (F3.keep _ _ hf') (hc.keeps fun b o e => F3.keep b o (gs b o e)) (F3.keep _ _ hD') (F3.keep _ _ hI') (F3.keep _ _ hN') (hl'.at fun o e => F3.keep _ _ e) (by simp only [depth_deeper]; omega) ?_
      intro h4 tk4 t4 st4
      have F4 := frStays F3 st4
      have N4 := newsStays N3 st4
      clear F3 N3
      k_steps
      have e : v + dval (2 ^ n) (seg ns lo (k / 2)) = dval (2 ^ n) (seg ns lo k) := by
        rw [hv, hshN, seg_split ns lo (show k / 2 + (k - k / 2) = k by omega), dval_append, seg_length (by omega), ← Int.pow_mul, Nat.mul_comm n, Int.mul_comm]
        omega
      rw [e]
      exact hret _ _ _ fun b o e => F4.keep b o (gs b o e)
    · exact ⟨by omega⟩
    · refine ⟨?_⟩
      have := bits_of_lt bs.1 bs.2
      omega
  · rename_i hne mid hmid h1 F1 N1
    have hk2 := two_of ha hbb hk hne
    obtain ⟨f1, f2, f3, f4, f5, f6, f7, f8, f9⟩ := halves hk2 hle
    obtain ⟨g1, g2, g3, g4, g5⟩ := mids ha hbb hk2 hmid
    refine ⟨IntMulOk.of_right (bits_of_lt (by omega) ?_)⟩
    exact Int.lt_of_le_of_lt (show (n : Int) ≤ 200 by omega) (by decide)
end
section
set_option maxRecDepth 100000 in
set_option maxHeartbeats 8000000 in
theorem d2i {w : World} {hb : Heap} {p : Program} {loose : List Str} {mean : ExcName → Option Value} {mg mb : Str → Option Value}
   {A : Around} {s : Shared} {Q E : Value → Shared → Prop} {n : Nat} {t2 : Tok} {dl : Addr} {vs : List Value} {ns : List Int}
   (X : (hd.heap_39 w.params).In hb) (T : Top p loose mean mg mb hb) (st : hb.StaysIn s.heap) (h44 : hb.get? 44 = none)
   (hdp : A.depth + 300 < recursionLimit)
   (hl : s.heap.IsList dl vs.toArray) (hi : IntsAre vs ns) (ht : TabD s.heap)
   (hn1 : n ≤ 200) (hlen : ns.length ≤ 200) (hds : ∀ d ∈ ns, 0 ≤ d ∧ d < 2 ^ 200)
   (hret : ∀ t h' tk', Grow [44] s.heap h' → TabD h' → Q (.int (dval (2 ^ n) ns) t) { s with heap := h', toks := tk' }) :
    wpAny (model prog0 w) A (call (.ref 49) [.ref dl, .int n t2]) Q E s := by
  revert X; unfold prog0; k_fill; intro X
  obtain ⟨t, ht1, ht2⟩ := ht
  have hn : ∀ q ∈ [((44 : Addr), tabObj t)], s.heap.get? q.1 = some q.2 ∧ hb.get? q.1 = none := fun q hq => by
    rw [List.mem_singleton.mp hq]; exact ⟨ht1, h44⟩
  k_dflt ( refine' wpAny_call (enterC (by assumption) (by assumption) (by assumption) (by assumption) (by k_is) (by k_is) (by omega) (by exact BindsTo.of_eq rfl) (by exact rfl) (by decide +kernel) ?_ (by exact rfl) (by exact rfl) (by exact rfl)))
  intro g L' h' tk' cells' G S l F N Y' X' T' st' l1
  k_lt l1
  ((try k_fold); (rename CellsAre _ _ _ => Y'); k_cells Y'; (rename News _ _ _ _ => N'); (try simp only [List.cons_append, List.nil_append] at N'); (try dsimp only); (try k_fold))
  have hdl : dl ∉ adrs [((44 : Addr), tabObj t)] := fun q => by
    have e : dl = 44 := by simpa using q
    obtain ⟨o, e1, e2, _⟩ := hl
    rw [e, ht1] at e1; cases e1; cases e2
  have hl' : g.IsList dl vs.toArray := hl.at fun o e => G _ _ e hdl
  have codeHd := codeHd_of_K (c := 48) (P := 44) X' (by kernel_rfl)
  rcases ht2 with rfl | ⟨c0, rfl, hrec⟩
  · k_steps
    · rename_i d1 d2 d3 f c oc vs2 t3 ct dc h1 tk1 e1 e2 l1 l2 h2 o2 F2 N2 dI hpos
      have hrec : h2.CodeRec (.ref c) qD := codeRec_news N2 (.tail _ (.head _)) e1 e2
      refine d2iInner X T (params := _) (body := _) (scope := _) rfl rfl rfl d3 dI d2 hi hn1 hlen hds ns.length (lo := 0) rfl (by simp) (by omega) (by omega) (fun b o e => F2.keep b o (st' b o e)) (N2.get (.head _)) hrec (N2.get (by k_mem)) (N2.get (by k_mem)) (N2.get (by k_mem)) (hl'.at fun o e => F2.keep _ _ e) (by simp only [depth_deeper]; omega) ?_
      intro h3 tk3 t3 st3
      have F3 := frStays F2 st3
      have N3 := newsStays N2 st3
      clear F2 N2
      k_steps
      rw [seg_all]
      exact hret _ _ _ (fun b o e n => F3.keep b o (G b o e n)) ⟨_, N3.get (by k_mem), .inr ⟨c, rfl, hrec.keeps st3⟩⟩
    · rename_i d1 d2 d3 f c oc vs2 t3 ct dc h1 tk1 e1 e2 l1 l2 h2 o2 F2 N2 dI hpos
      have hrec : h2.CodeRec (.ref c) qD := codeRec_news N2 (.tail _ (.head _)) e1 e2
      have e0 : ns = [] := List.eq_nil_of_length_eq_zero (by omega)
      subst e0
      exact hret _ _ _ (fun b o e n => F2.keep b o (G b o e n)) ⟨_, N2.get (by k_mem), .inr ⟨c, rfl, hrec⟩⟩
  · have hne : c0 ∉ adrs [((44 : Addr), tabObj #[rawInt (50 : Nat), rawInt (4 : Nat), .ref c0])] := fun q => rec_ne hrec ht1 (by simpa using q)
    have hrecg := recGrow hrec G hne
    k_steps
    · rename_i d1 d2 d3 f ct dc h1 tk1 l1 h2 o2 F2 N2 dI hpos
      have hrec2 : h2.CodeRec (.ref c0) qD := hrecg.keeps F2.keep
      refine d2iInner X T (params := _) (body := _) (scope := _) rfl rfl rfl d3 dI d2 hi hn1 hlen hds ns.length (lo := 0) rfl (by simp) (by omega) (by omega) (fun b o e => F2.keep b o (st' b o e)) (N2.get (.head _)) hrec2 (N2.get (by k_mem)) (N2.get (by k_mem)) (N2.get (by k_mem)) (hl'.at fun o e => F2.keep _ _ e) (by simp only [depth_deeper]; omega) ?_
      intro h3 tk3 t3 st3
      have F3 := frStays F2 st3
      have N3 := newsStays N2 st3
      clear F2 N2
      k_steps
      rw [seg_all]
      exact hret _ _ _ (fun b o e n => F3.keep b o (G b o e n)) ⟨_, N3.get (by k_mem), .inr ⟨c0, rfl, hrec2.keeps st3⟩⟩
    · rename_i d1 d2 d3 f ct dc h1 tk1 l1 h2 o2 F2 N2 dI hpos
      have e0 : ns = [] := List.eq_nil_of_length_eq_zero (by omega)
      subst e0
      exact hret _ _ _ (fun b o e n => F2.keep b o (G b o e n)) ⟨_, N2.get (by k_mem), .inr ⟨c0, rfl, hrecg.keeps F2.keep⟩⟩
end
end Mine
end
theorem Mine.freshC3 : True := by
  w_top off
  trivial
section -- C3
open PySem PySem.W PyProof.Rows PySem.Spec PySem.Calls
namespace Mine
section
local macro_rules | `(tactic| walk_at "callWith ref") => `(tactic| (k_here; k_dflt (refine' callWith_F (by exact fnAtB (by assumption) (by assumption)) ?_; k_whole)))
local macro_rules | `(tactic| walk_at "And") => `(tactic| ((with_reducible show FnAt _ _ ∧ _); refine ⟨fnAtB (by assumption) (by assumption), ?_⟩; try dsimp only [List.nil_append, List.cons_append]))
local macro_rules | `(tactic| walk_at "binaryOp RShift int int") => `(tactic| (refine rshiftH ?_ ?_; rotate_left 1; intro _ _))
local macro_rules | `(tactic| walk_at "binaryOp RShift int int") => `(tactic| (refine rshift1 ?_; intro _ _))
set_option maxRecDepth 100000 in
set_option maxHeartbeats 8000000 in
theorem i2dInner {w : World} {hb : Heap} {p : Program} {loose : List Str} {mean : ExcName → Option Value} {mg mb : Str → Option Value}
   (X : (hd.heap_39 w.params).In hb) (T : Top p loose mean mg mb hb)
   {params : Arguments} {body : List Stmt} {scope : Scope} (hP : params = fParams i2dIn) (hB : body = fBody i2dIn) (hS : scope = fScope i2dIn)
   {n : Nat} {tn : Tok} {f c' cD cI cN dl : Addr} {doc pm ctv : Value} {qual : Str} {oD oI oN : Obj} {ep : Nat}
   (dD : oD.data = .cell (some (.ref dl))) (dI : oI.data = .cell (some (.ref f))) (dN : oN.data = .cell (some (.int n tn)))
   (hn1 : n ≤ 200) (hdl : hb.get? dl = none) (ne1 : f ≠ dl) (ne2 : cD ≠ dl) (ne3 : cI ≠ dl) (ne4 : cN ≠ dl) (ne5 : c' ≠ dl) :
   ∀ (k : Nat) {A : Around} {s : Shared} {Q E : Value → Shared → Prop} {lo : Nat} {x a b : Int} {t0 t1 t2 : Tok} {vs : List Value} {ns : List Int}, IntsAre vs ns → ns.length ≤ 200 → 0 ≤ x → x < (2 ^ n) ^ k → a = lo → b = lo + k → 1 ≤ k → lo + k ≤ ns.length →
   hb.StaysIn s.heap → s.heap.get? f = some (fnMade (Str.ofString "inner") qual params body scope [(Str.ofString "n", cN), (Str.ofString "inner", cI), (Str.ofString "a_digits", cD)] doc pm c' ctv) →
   s.heap.CodeRec (.ref c') qual → s.heap.get? cD = some oD → s.heap.get? cI = some oI → s.heap.get? cN = some oN → s.heap.get? dl = some (listOf vs.toArray ep) →
   A.depth + k < recursionLimit →
   (∀ h' tk' vs', Grow [dl] s.heap h' → h'.get? dl = some (listOf vs'.toArray ep) → IntsAre vs' (ns.take lo ++ (digs (2 ^ n) x k ++ ns.drop (lo + k))) → Q .none { s with heap := h', toks := tk' }) →
    wpAny (model prog0 w) A (call (.ref f) [.int x t0, .int a t1, .int b t2]) Q E s := by
  revert X; unfold prog0; k_fill; intro X
  conv at hP => rhs; whnf
  conv at hB => rhs; whnf
  conv at hS => rhs; whnf
  subst hP hB hS
  intro k
  induction k using Nat.strongRecOn with
  | ind k IH =>
  intro A s Q E lo x a b t0 t1 t2 vs ns hi hlen hx0 hx1 ha hbb hk hle st hf hc hD hI hN hl hdp hret
  have hn : ∀ q ∈ [(dl, listOf vs.toArray ep)], s.heap.get? q.1 = some q.2 ∧ hb.get? q.1 = none := fun q hq => by
    rw [List.mem_singleton.mp hq]; exact ⟨hl, hdl⟩
  k_dflt ( refine' wpAny_call (enterF (by assumption) (by assumption) (by assumption) (by assumption) (by assumption) (by assumption) (by omega) (by exact BindsTo.of_eq rfl) (by exact locs rfl) ?_ (by decide) (by exact rfl) (by exact rfl) (by exact rfl)))
  intro g L' h' G S l F N X' T' st' l1
  have hf' := G _ _ hf (by simpa using ne1)
  have hD' := G _ _ hD (by simpa using ne2)
  have hI' := G _ _ hI (by simpa using ne3)
  have hN' := G _ _ hN (by simpa using ne4)
  try dsimp only
  try k_fold
  k_steps
  · rename_i he h2 F2 N2 hi2 hl2 hs2
    have hk1 : k = 1 := by omega
    subst hk1
    have e : a.toNat = lo := by omega
    rw [Int.pow_succ, Int.pow_zero, Int.one_mul] at hx1
    refine hret h2 _ _ (fun b o e n => F2.keep b o (G b o e n)) (N2.get (.head _)) ?_
    rw [digs_one hx0 hx1, ← set_mid ns lo x (by omega), ← e]
    exact hi2
  · rename_i hne mid hmid h1 sh hsh h2 up hup h3 lw hlw h4 F4 N4
    have hk2 := two_of ha hbb hk hne
    obtain ⟨f1, f2, f3, f4, f5, f6, f7, f8, f9⟩ := halves hk2 hle
    obtain ⟨g1, g2, g3, g4, g5⟩ := mids ha hbb hk2 hmid
    have hsh' : sh = ((k / 2 * n : Nat) : Int) := by
      rw [hsh, show mid - a = ((k / 2 : Nat) : Int) by omega]; push_cast; rfl
    have hshN : sh.toNat = k / 2 * n := by rw [hsh']; rfl
    have ps := pow_split hx0 hx1 (show k / 2 ≤ k by omega)
    rw [hshN] at hup hlw
    have elo : Builtin.bitXor x lw = x % 2 ^ (k / 2 * n) := by rw [hlw, hup]; exact xor_low hx0 _
    rw [elo]
    have gr4 : Grow [dl] s.heap h4 := fun b o e n => F4.keep b o (G b o e n)
    have ndl : dl ≠ L' := (N4 _ (.head _)).2.1
    have gdl : g.get? dl = none := (N4 _ (.head _)).2.2
    refine IH (k / 2) (by omega) (lo := lo) hi hlen ps.2.2.1 ps.2.2.2 ha (by omega) (by omega) (by omega) (fun b o e => F4.keep b o (st' b o e)) (F4.keep _ _ hf') (recGrow hc gr4 (by simpa using ne5)) (F4.keep _ _ hD') (F4.keep _ _ hI') (F4.keep _ _ hN') (N4.get (.head _)) (by simp only [depth_deeper]; omega) ?_
    intro h5 tk5 vs5 G5 e5 hi5
    have F5 := frGrow F4 G5 (fun a ha => by rw [List.mem_singleton.mp ha]; exact ⟨gdl, ndl⟩)
    have N5 := newsOne (News.nil (h₀ := g) (L := L') (h := h5)) e5 ndl gdl
    clear F4 N4
    k_steps
    have gr5 := gr4.trans G5
    have len5 : (ns.take lo ++ (digs (2 ^ n) (x % 2 ^ (k / 2 * n)) (k / 2) ++ ns.drop (lo + k / 2))).length = ns.length := by
      simp only [List.length_append, List.length_take, List.length_drop, digs_length]; omega
    refine IH (k - k / 2) (by omega) (lo := lo + k / 2) hi5 (by omega) (by rw [hup]; exact ps.1) (by rw [hup]; exact ps.2.1) (by omega) (by omega) (by omega) (by omega) (fun b o e => F5.keep b o (st' b o e)) (F5.keep _ _ hf') (recGrow hc gr5 (by simpa using ne5)) (F5.keep _ _ hD') (F5.keep _ _ hI') (F5.keep _ _ hN') e5 (by simp only [depth_deeper]; omega) ?_
    intro h6 tk6 vs6 G6 e6 hi6
    have F6 := frGrow F5 G6 (fun a ha => by rw [List.mem_singleton.mp ha]; exact ⟨gdl, ndl⟩)
    have N6 := newsOne (News.nil (h₀ := g) (L := L') (h := h6)) e6 ndl gdl
    clear F5 N5
    k_steps
    refine hret h6 _ _ (gr5.trans G6) e6 ?_
    have e7 := mid_mid ns (digs (2 ^ n) (x % 2 ^ (k / 2 * n)) (k / 2)) (digs (2 ^ n) up (k - k / 2)) (lo := lo) (digs_length _ _ _) (digs_length _ _ _) (show lo + k / 2 + (k - k / 2) ≤ ns.length by omega)
    have e8 : digs (2 ^ n) (x % 2 ^ (k / 2 * n)) (k / 2) ++ digs (2 ^ n) up (k - k / 2) = digs (2 ^ n) x k := by
      have := digs_split (two_pow_pos n) (k / 2) (k - k / 2) x
      rw [show k / 2 + (k - k / 2) = k by omega, ← Int.pow_mul, Nat.mul_comm n] at this
      rw [this, hup]
    rw [e7, e8, show lo + k / 2 + (k - k / 2) = lo + k by omega] at hi6
    exact hi6
  · rename_i hne mid hmid h1 sh hsh h2 up hup h3 F4 N4
    have hk2 := two_of ha hbb hk hne
    obtain ⟨f1, f2, f3, f4, f5, f6, f7, f8, f9⟩ := halves hk2 hle
    obtain ⟨g1, g2, g3, g4, g5⟩ := mids ha hbb hk2 hmid
    rw [show mid - a = ((k / 2 : Nat) : Int) by omega] at hsh
    exact ⟨by rw [hsh]; exact Int.mul_nonneg (by omega) (by omega)⟩
  · rename_i hne mid hmid h1 sh hsh h2 up hup h3 F4 N4
    have hk2 := two_of ha hbb hk hne
    obtain ⟨f1, f2, f3, f4, f5, f6, f7, f8, f9⟩ := halves hk2 hle
    obtain ⟨g1, g2, g3, g4, g5⟩ := mids ha hbb hk2 hmid
    have hsh' : sh = ((k / 2 * n : Nat) : Int) := by
      rw [hsh, show mid - a = ((k / 2 : Nat) : Int) by omega]; push_cast; rfl
    have small2 : k / 2 * n ≤ 200 * 200 := Nat.mul_le_mul (by omega) (by omega)
    have small3 : n * k ≤ 200 * 200 := Nat.mul_le_mul (by omega) (by omega)
    have hb1 : Builtin.Int.intBits x ≤ n * k := bits_of_lt hx0 (by rw [Int.pow_mul]; exact hx1)
    have hb2 : Builtin.Int.intBits up ≤ n * k := by
      rw [hup]; exact bits_of_lt (Int.ediv_nonneg hx0 (Int.le_of_lt (two_pow_pos _))) (Int.lt_of_le_of_lt (Int.ediv_le_self _ hx0) (by rw [Int.pow_mul]; exact hx1))
    exact ⟨by omega⟩
  · rename_i hne mid hmid h1 sh hsh h2 F4 N4
    have hk2 := two_of ha hbb hk hne
    obtain ⟨f1, f2, f3, f4, f5, f6, f7, f8, f9⟩ := halves hk2 hle
    obtain ⟨g1, g2, g3, g4, g5⟩ := mids ha hbb hk2 hmid
    rw [show mid - a = ((k / 2 : Nat) : Int) by omega] at hsh
    exact ⟨by rw [hsh]; exact Int.mul_nonneg (by omega) (by omega)⟩
  · rename_i hne mid hmid h1 F1 N1
    have hk2 := two_of ha hbb hk hne
    obtain ⟨f1, f2, f3, f4, f5, f6, f7, f8, f9⟩ := halves hk2 hle
    obtain ⟨g1, g2, g3, g4, g5⟩ := mids ha hbb hk2 hmid
    refine ⟨IntMulOk.of_right (bits_of_lt (by omega) ?_)⟩
    exact Int.lt_of_le_of_lt (show (n : Int) ≤ 200 by omega) (by decide)
end
section
set_option maxRecDepth 100000 in
set_option maxHeartbeats 8000000 in
theorem i2d {w : World} {hb : Heap} {p : Program} {loose : List Str} {mean : ExcName → Option Value} {mg mb : Str → Option Value}
   {A : Around} {s : Shared} {Q E : Value → Shared → Prop} {a : Int} {n : Nat} {t1 t2 : Tok}
   (X : (hd.heap_39 w.params).In hb) (T : Top p loose mean mg mb hb) (st : hb.StaysIn s.heap) (h37 : hb.get? 37 = none)
   (hdp : A.depth + 300 < recursionLimit) (ht : TabI s.heap)
   (ha : 0 ≤ a) (hbits : Builtin.Int.intBits a ≤ 200) (hn0 : 1 ≤ n) (hn1 : n ≤ 200)
   (hret : ∀ dl vs ep h' tk', Grow [37] s.heap h' → TabI h' → s.heap.get? dl = none → h'.get? dl = some (listOf (List.toArray vs) ep) → IntsAre vs (digs (2 ^ n) a (nDigs (Builtin.Int.intBits a) n)) → Q (.ref dl) { s with heap := h', toks := tk' }) :
    wpAny (model prog0 w) A (call (.ref 42) [.int a t1, .int n t2]) Q E s := by
  revert X; unfold prog0; k_fill; intro X
  obtain ⟨t, ht1, ht2⟩ := ht
  have hn : ∀ q ∈ [((37 : Addr), tabObj t)], s.heap.get? q.1 = some q.2 ∧ hb.get? q.1 = none := fun q hq => by
    rw [List.mem_singleton.mp hq]; exact ⟨ht1, h37⟩
  k_dflt ( refine' wpAny_call (enterC (by assumption) (by assumption) (by assumption) (by assumption) (by k_is) (by k_is) (by omega) (by exact BindsTo.of_eq rfl) (by exact rfl) (by decide +kernel) ?_ (by exact rfl) (by exact rfl) (by exact rfl)))
  intro g L' h' tk' cells' G S l F N Y' X' T' st' l1
  k_lt l1
  ((try dsimp only); (try k_fold); (rename CellsAre _ _ _ => Y'); k_cells Y'; (rename News _ _ _ _ => N'); (try simp only [List.cons_append, List.nil_append] at N'); (try dsimp only); (try k_fold))
  have codeHd := codeHd_of_K (c := 41) (P := 37) X' (by kernel_rfl)
  have dn := nDigs_le (bits := Builtin.Int.intBits a) hn0
  k_steps
  rename_i l0 h0 F0 N0 l00
  rw [nDigs_eq _ _ hn0]
  refine KMa.mul F0 N0 (News.isList N0 (.head _)) (by omega) (by omega) (by simp; omega) (ws := List.replicate (nDigs (Builtin.Int.intBits a) n) (.int 0 tk')) (by simp) ?_
  intro dl h1 F1 N1 l01
  k_lt l01
  have hi1 := intsRep (nDigs (Builtin.Int.intBits a) n) 0 tk'
  have hs1 : (List.replicate (nDigs (Builtin.Int.intBits a) n) (Value.int 0 tk')).toArray.size = nDigs (Builtin.Int.intBits a) n := by simp
  clear F0 N0
  generalize hd : nDigs (Builtin.Int.intBits a) n = d at *
  generalize hvs : (List.replicate d (Value.int 0 tk')) = vs1 at *
  have hx1 : a ≠ 0 → a < (2 ^ n) ^ d := fun _ => by
    rw [← Int.pow_mul]
    exact lt_of_bits ha (hd ▸ nDigs_ge hn0)
  have hd1 : a ≠ 0 → 1 ≤ d := fun h => by
    rw [← hd]
    refine nDigs_pos hn0 ?_
    unfold Builtin.Int.intBits
    rw [if_neg (by simpa using h)]; omega
  rcases ht2 with rfl | ⟨c0, rfl, hrec⟩
  · k_steps
    · rename_i d1 d2 d3 h01 oD dD f c oc vs2 t3 ct dc h02 tk1 e1 e2 l1 l2 h2 oI F2 N2 dI hpos
      have hrec : h2.CodeRec (.ref c) qI := codeRec_news N2 (.tail _ (.head _)) e1 e2
      have gdl : g.get? dl = none := N2.fresh (o := listOf vs1.toArray 0) (by k_mem)
      have ndl : dl ≠ L' := (N2 (dl, listOf vs1.toArray 0) (by k_mem)).2.1
      have hbdl : hb.get? dl = none := by
        cases q : hb.get? dl with
        | none => rfl
        | some o => rw [st' _ _ q] at gdl; cases gdl
      refine i2dInner X T (params := _) (body := _) (scope := _) (cD := L' + 1 + 1) (cI := L' + 1 + 1 + 1) (cN := L' + 1) rfl rfl rfl dD dI d3 hn1 hbdl (neN (by omega)) (neN (by omega)) (neN (by omega)) (neN (by omega)) (neN (by omega)) d (lo := 0) hi1 (by simp; omega) ha (hx1 hpos) rfl (by simp) (hd1 hpos) (by simp) (fun b o e => F2.keep b o (st' b o e)) (N2.get (.head _)) hrec (N2.get (by k_mem)) (N2.get (by k_mem)) (N2.get (by k_mem)) (N2.get (by k_mem)) (by simp only [depth_deeper]; omega) ?_
      intro h3 tk3 vs3 G3 e3 hi3
      have hrec3 := recGrow hrec G3 (nin1 (by omega))
      have F3 := frGrow F2 G3 (fun a ha => by rw [List.mem_singleton.mp ha]; exact ⟨gdl, ndl⟩)
      have N3 := newsOne (newsGrow (news := [(L' + 1 + 1, oD)]) (fun q hq => N2 q (by rw [List.mem_singleton.mp hq]; k_mem)) G3 (fun q hq => by rw [List.mem_singleton.mp hq]; exact nin1 (by dsimp only; omega))) e3 ndl gdl
      have e37 := G3 37 _ (N2.get (by k_mem)) (nin1 (by omega))
      clear F2 N2
      have hi4 : IntsAre vs3 (digs (2 ^ n) a d) := by
        simpa using hi3
      k_steps
      refine hret dl vs3 0 _ _ (fun b o e n => F3.keep b o (G b o e n)) ⟨_, e37, .inr ⟨c, rfl, hrec3⟩⟩ (G.fresh gdl (nin1 (by dsimp only; omega))) e3 hi4
    · rename_i d1 d2 d3 h01 oD dD f c oc vs2 t3 ct dc h02 tk1 e1 e2 l1 l2 h2 oI F2 N2 dI hz
      have hrec : h2.CodeRec (.ref c) qI := codeRec_news N2 (.tail _ (.head _)) e1 e2
      have gdl : g.get? dl = none := N2.fresh (o := listOf vs1.toArray 0) (by k_mem)
      have d0 : d = 0 := by rw [← hd, hz]; exact Nat.le_zero.mp (nDigs_le hn0)
      refine hret dl vs1 0 _ _ (fun b o e n => F2.keep b o (G b o e n)) ⟨_, N2.get (by k_mem), .inr ⟨c, rfl, hrec⟩⟩ (G.fresh gdl (nin1 (by dsimp only; omega))) (N2.get (by k_mem)) ?_
      rw [d0] at hi1 ⊢; exact hi1
  · have hne : c0 ∉ adrs [((37 : Addr), tabObj #[rawInt (35 : Nat), rawInt (4 : Nat), .ref c0])] := fun q => rec_ne hrec ht1 (by simpa using q)
    have hrecg := recGrow hrec G hne
    have c0dl : c0 ≠ dl := fun q => by
      have gdl : g.get? dl = none := N1.fresh (o := listOf vs1.toArray 0) (by k_mem)
      obtain ⟨_, o, _, _, e1, e2, _⟩ := hrecg
      cases e1; rw [q, gdl] at e2; cases e2
    k_steps
    · rename_i d1 d2 d3 h01 oD dD f ct dc h02 tk1 l1 h2 oI F2 N2 dI hpos
      have hrec : h2.CodeRec (.ref c0) qI := hrecg.keeps F2.keep
      have gdl : g.get? dl = none := N2.fresh (o := listOf vs1.toArray 0) (by k_mem)
      have ndl : dl ≠ L' := (N2 (dl, listOf vs1.toArray 0) (by k_mem)).2.1
      have hbdl : hb.get? dl = none := by
        cases q : hb.get? dl with
        | none => rfl
        | some o => rw [st' _ _ q] at gdl; cases gdl
      refine i2dInner X T (params := _) (body := _) (scope := _) (cD := L' + 1 + 1) (cI := L' + 1 + 1 + 1) (cN := L' + 1) rfl rfl rfl dD dI d3 hn1 hbdl (neN (by omega)) (neN (by omega)) (neN (by omega)) (neN (by omega)) c0dl d (lo := 0) hi1 (by simp; omega) ha (hx1 hpos) rfl (by simp) (hd1 hpos) (by simp) (fun b o e => F2.keep b o (st' b o e)) (N2.get (.head _)) hrec (N2.get (by k_mem)) (N2.get (by k_mem)) (N2.get (by k_mem)) (N2.get (by k_mem)) (by simp only [depth_deeper]; omega) ?_
      intro h3 tk3 vs3 G3 e3 hi3
      have hrec3 := recGrow hrec G3 (by simpa using c0dl)
      have F3 := frGrow F2 G3 (fun a ha => by rw [List.mem_singleton.mp ha]; exact ⟨gdl, ndl⟩)
      have N3 := newsOne (newsGrow (news := [(L' + 1 + 1, oD)]) (fun q hq => N2 q (by rw [List.mem_singleton.mp hq]; k_mem)) G3 (fun q hq => by rw [List.mem_singleton.mp hq]; exact nin1 (by dsimp only; omega))) e3 ndl gdl
      have e37 := G3 37 _ (N2.get (by k_mem)) (nin1 (by omega))
      clear F2 N2
      have hi4 : IntsAre vs3 (digs (2 ^ n) a d) := by
        simpa using hi3
      k_steps
      refine hret dl vs3 0 _ _ (fun b o e n => F3.keep b o (G b o e n)) ⟨_, e37, .inr ⟨c0, rfl, hrec3⟩⟩ (G.fresh gdl (nin1 (by dsimp only; omega))) e3 hi4
    · rename_i d1 d2 d3 h01 oD dD f ct dc h02 tk1 l1 h2 oI F2 N2 dI hz
      have gdl : g.get? dl = none := N2.fresh (o := listOf vs1.toArray 0) (by k_mem)
      have d0 : d = 0 := by rw [← hd, hz]; exact Nat.le_zero.mp (nDigs_le hn0)
      refine hret dl vs1 0 _ _ (fun b o e n => F2.keep b o (G b o e n)) ⟨_, N2.get (by k_mem), .inr ⟨c0, rfl, hrecg.keeps F2.keep⟩⟩ (G.fresh gdl (nin1 (by dsimp only; omega))) (N2.get (by k_mem)) ?_
      rw [d0] at hi1 ⊢; exact hi1
end
end Mine
end
end
section
open PySem PySem.W PyProof.Rows PySem.Spec PySem.Calls Mine
local macro_rules | `(tactic| walk_at "eval Name") => `(tactic| (k_here; k_dflt (refine' ld (by k_asm) (by assumption) ?_; k_whole)))
local macro_rules | `(tactic| walk_at "subscriptTail Name Slice ref ref") => `(tactic| ((with_reducible show wpAny _ _ (subscriptTail _ (PySem.Expr.Slice _ _ none _) (Value.ref _) (Value.ref _)) _ _ _); k_dflt (refine' kmk_slice_ints (by k_asm) (by k_asm) (by kmk_list) (by kmk_part) (by kmk_part) (by assumption) (by first | exact kmk_from (by assumption) (by omega) | exact kmk_upto (by assumption) (by omega)) (by exact rfl) ?_ (by with_unfolding_all rfl) (by kmk_pure) (by exact kmk_sz (by assumption) (by rw [sizeLine_eq]; omega))); intro D' ws' h' F' N' l1 hI' _ hL'; (try k_lt l1); (try k_sweep)))
section
open PySem PySem.W PyProof.Rows PySem.Spec PySem.Calls Mine
local macro_rules | `(tactic| walk_at "loadName") => `(tactic| (k_here; k_dflt (refine' ldn (by k_asm) (by assumption) ?_; k_whole)))
theorem Mine.freshC9a : True := by
  w_top off
  trivial
section -- C9a
open PySem PySem.W PyProof.Rows PySem.Spec PySem.Calls
namespace Mine
section
noncomputable def sldIn : Stmt := sAt prog0.main.body 16
theorem itemOut {w : World} {A : Around} {E : Value → Shared → Prop} {s : Shared} {value slice : Expr} {a : Addr} {vs : List Value} {ns : List Int} {i : Nat} {u : Tok} {Q : Value → Shared → Prop} {ctx : Value} {K : Heap → Prop}
    (out : ∀ {s' : Shared} {E' : Value → Shared → Prop} {Q' : Value → Shared → Prop} {j : Nat} {t : Tok}, K s'.heap → s'.heap.IsList a vs.toArray → ns.length ≤ j → j ≤ 2000 → (∀ h' tk e, ExcNew s'.heap h' e ctx → E' (.ref e) { s' with heap := h', toks := tk }) → wpAny (model prog0 w) A (getItem (.ref a) (.int j t)) Q' E' s')
    (hl : s.heap.IsList a vs.toArray) (hi : IntsAre vs ns) (hb : ns.length ≤ 1000) (hk : i ≤ 2000) (hK : K s.heap)
    (hout : Hid (ns.length ≤ i → ∀ h' tk e, ExcNew s.heap h' e ctx → E (.ref e) { s with heap := h', toks := tk })) (hin : i < ns.length → ∀ t, Q (.int (ns.getD i 0) t) s)
    (hs : subscripted slice false (.ref a) (.int i u) = operate [.ref a, .int i u] (getItem (.ref a) (.int i u)) := by with_unfolding_all rfl) :
    wpAny (model prog0 w) A (subscriptTail value slice (.ref a) (.int i u)) Q E s := by
  by_cases h : i < ns.length
  · exact item_anyK hl hi (by omega) (by omega) (by omega) (fun t => by rw [Int.toNat_natCast]; exact hin h t) hs
  · exact tail_any hl.typeIs slot_list_getitem.lookup (out hK hl (by omega) hk (hout.out (by omega))) hs
section
local macro_rules | `(tactic| walk_at "idle") => `(tactic| fail)
local macro_rules | `(tactic| walk_at "idle") => `(tactic| fail)
local macro_rules | `(tactic| walk_at "eval Name") => `(tactic| (refine' ld (by assumption) (by assumption) ?_))
local macro_rules | `(tactic| walk_at "loadName") => `(tactic| (refine' ldn (by assumption) (by assumption) ?_))
local macro_rules | `(tactic| walk_at "subscriptTail Name Name ref int") => `(tactic| (k_dflt (refine itemOut (by assumption) (by exact Fr.lst (by assumption) (by assumption)) (by assumption) (by omega) (by omega) (by assumption) ?_ ?_); rotate_left 1; intro _ _))
inductive SkipInvI (s : Shared) (g : Heap) (L : Addr) (m : Mp) (news : List (Addr × Obj)) (l : List Int) (x : Int) (j : Nat) (k : Nat) (s' : Shared) : Prop
  | intro (h : Heap) (tk : Nat) (m' : Mp) (j' : Nat) (tj' : Tok)
    (c1 : s' = { s with heap := h, toks := tk })
    (c2 : Fr g L h m')
    (c3 : News g L h news)
    (c4 : (∀ y, y ≠ Str.ofString "i" → m' y = m y))
    (c5 : m' (Str.ofString "i") = some (.int j' tj'))
    (c6 : skp l x j' = skp l x j)
    (c7 : j' ≤ l.length)
    (c8 : l.length - j' ≤ k) : SkipInvI s g L m news l x j k s'
set_option maxRecDepth 100000 in
set_option maxHeartbeats 8000000 in
theorem skipI {w : World} {A : Around} {E : Value → Shared → Prop} {Q : Flow → Shared → Prop} {s : Shared} {g : Heap} {L : Addr} {qual : Str} {sc : Scope} (hS : sc = fScope sldIn) {cd : Value} {m : Mp} {news : List (Addr × Obj)} {la : Addr} {lvs : List Value} {l : List Int} {j : Nat} {x : Int} {tj tx : Tok} {ctx : Value} {K : Heap → Prop} {p1 p2 p3 p4 p5 p6 p7 p8 p9 : Pos}
    (out : ∀ {s' : Shared} {E' : Value → Shared → Prop} {Q' : Value → Shared → Prop} {j : Nat} {t : Tok}, K s'.heap → s'.heap.IsList la lvs.toArray → l.length ≤ j → j ≤ 2000 → (∀ h' tk e, ExcNew s'.heap h' e ctx → E' (.ref e) { s' with heap := h', toks := tk }) → wpAny (model prog0 w) A (getItem (.ref la) (.int j t)) Q' E' s')
    (hE : PassesOwn (model prog0 w) A (envX qual sc L 93 cd []) E) (hl : g.IsList la lvs.toArray) (hi : IntsAre lvs l) (l2 : l.length ≤ 100) (hj : j ≤ l.length)
    (F : Fr g L s.heap m) (N : News g L s.heap news) (mA : m (Str.ofString "expected") = some (.ref la)) (mJ : m (Str.ofString "i") = some (.int j tj)) (mx : m (Str.ofString "e") = some (.int x tx)) (hK : ∀ h m', Fr g L h m' → News g L h news → K h)
    (hend : ∀ h tk m' tj', Fr g L h m' → News g L h news → (∀ y, y ≠ Str.ofString "i" → m' y = m y) → m' (Str.ofString "i") = some (.int (skp l x j : Nat) tj') → skp l x j < l.length → Q .next { s with heap := h, toks := tk })
    (hraise : ∀ h m' tj', Fr g L h m' → News g L h news → (∀ y, y ≠ Str.ofString "i" → m' y = m y) → m' (Str.ofString "i") = some (.int (skp l x j : Nat) tj') → skp l x j = l.length → ∀ h' tk' e, ExcNew h h' e ctx → E (.ref e) { s with heap := h', toks := tk' }) :
    wpAny (model prog0 w) A (exec (.While (.Compare (.Subscript (.Name (Str.ofString "expected") p1) (.Name (Str.ofString "i") p2) p3) [.Eq] [.Name (Str.ofString "e") p4] p5) [.AugAssign (.Name (Str.ofString "i") p6) .Add (.Constant (.int 1) 0 p7) p8] [] p9) (envX qual sc L 93 cd [])) Q E s := by
  conv at hS => rhs; whnf
  subst hS
  refine whl_start 0 ?_
  refine whlInd hE (SkipInvI s g L m news l x j) ?turn (l.length - j) _ ?init
  case init => exact ⟨s.heap, s.toks, m, j, tj, rfl, F, N, fun _ _ => rfl, mJ, rfl, hj, Nat.le_refl _⟩
  case turn =>
    rintro k s1 ⟨h, tk, m', j', tj', rfl, F1, N1, ag, mJ1, esk, hj1, hk⟩
    have mA1 : m' (Str.ofString "expected") = some (.ref la) := (ag _ (by decide)).trans mA
    have mx1 : m' (Str.ofString "e") = some (.int x tx) := (ag _ (by decide)).trans mx
    clear F N
    have hK1 := hK h m' F1 N1
    have hst := skp_step (l := l) (x := x) (i := j')
    k_steps
    · rename_i hlt t1
      by_cases hx : l.getD j' 0 = x
      · refine WhlIf.yes (by simpa using hx) ?_
        rw [if_pos ⟨hlt, hx⟩] at hst
        k_steps
        refine ⟨k - 1, by omega, _, _, _, j' + 1, _, rfl, by assumption, by assumption, fun y hy => ?_, rfl, hst.symm.trans esk, by omega, by omega⟩
        exact (if_neg hy).trans (ag y hy)
      · refine WhlIf.no (by simpa using hx) ?_
        rw [if_neg fun q => hx q.2] at hst
        k_steps
        rw [esk] at hst
        exact hend h _ m' tj' F1 N1 ag (by rw [hst]; exact mJ1) (by omega)
    · refine ⟨fun hle h' tk' e hx => ?_⟩
      rw [if_neg fun q => absurd q.1 (by omega), esk] at hst
      exact hraise h m' tj' F1 N1 ag (by rw [hst]; exact mJ1) (by omega) h' tk' e hx
inductive SkipInvJ (s : Shared) (g : Heap) (L : Addr) (m : Mp) (news : List (Addr × Obj)) (l : List Int) (x : Int) (j : Nat) (k : Nat) (s' : Shared) : Prop
  | intro (h : Heap) (tk : Nat) (m' : Mp) (j' : Nat) (tj' : Tok)
    (c1 : s' = { s with heap := h, toks := tk })
    (c2 : Fr g L h m')
    (c3 : News g L h news)
    (c4 : (∀ y, y ≠ Str.ofString "j" → m' y = m y))
    (c5 : m' (Str.ofString "j") = some (.int j' tj'))
    (c6 : skp l x j' = skp l x j)
    (c7 : j' ≤ l.length)
    (c8 : l.length - j' ≤ k) : SkipInvJ s g L m news l x j k s'
set_option maxRecDepth 100000 in
set_option maxHeartbeats 8000000 in
theorem skipJ {w : World} {A : Around} {E : Value → Shared → Prop} {Q : Flow → Shared → Prop} {s : Shared} {g : Heap} {L : Addr} {qual : Str} {sc : Scope} (hS : sc = fScope sldIn) {cd : Value} {m : Mp} {news : List (Addr × Obj)} {la : Addr} {lvs : List Value} {l : List Int} {j : Nat} {x : Int} {tj tx : Tok} {ctx : Value} {K : Heap → Prop} {p1 p2 p3 p4 p5 p6 p7 p8 p9 : Pos}
    (out : ∀ {s' : Shared} {E' : Value → Shared → Prop} {Q' : Value → Shared → Prop} {j : Nat} {t : Tok}, K s'.heap → s'.heap.IsList la lvs.toArray → l.length ≤ j → j ≤ 2000 → (∀ h' tk e, ExcNew s'.heap h' e ctx → E' (.ref e) { s' with heap := h', toks := tk }) → wpAny (model prog0 w) A (getItem (.ref la) (.int j t)) Q' E' s')
    (hE : PassesOwn (model prog0 w) A (envX qual sc L 93 cd []) E) (hl : g.IsList la lvs.toArray) (hi : IntsAre lvs l) (l2 : l.length ≤ 100) (hj : j ≤ l.length)
    (F : Fr g L s.heap m) (N : News g L s.heap news) (mA : m (Str.ofString "actual") = some (.ref la)) (mJ : m (Str.ofString "j") = some (.int j tj)) (mx : m (Str.ofString "a") = some (.int x tx)) (hK : ∀ h m', Fr g L h m' → News g L h news → K h)
    (hend : ∀ h tk m' tj', Fr g L h m' → News g L h news → (∀ y, y ≠ Str.ofString "j" → m' y = m y) → m' (Str.ofString "j") = some (.int (skp l x j : Nat) tj') → skp l x j < l.length → Q .next { s with heap := h, toks := tk })
    (hraise : ∀ h m' tj', Fr g L h m' → News g L h news → (∀ y, y ≠ Str.ofString "j" → m' y = m y) → m' (Str.ofString "j") = some (.int (skp l x j : Nat) tj') → skp l x j = l.length → ∀ h' tk' e, ExcNew h h' e ctx → E (.ref e) { s with heap := h', toks := tk' }) :
    wpAny (model prog0 w) A (exec (.While (.Compare (.Subscript (.Name (Str.ofString "actual") p1) (.Name (Str.ofString "j") p2) p3) [.Eq] [.Name (Str.ofString "a") p4] p5) [.AugAssign (.Name (Str.ofString "j") p6) .Add (.Constant (.int 1) 0 p7) p8] [] p9) (envX qual sc L 93 cd [])) Q E s := by
  conv at hS => rhs; whnf
  subst hS
  refine whl_start 0 ?_
  refine whlInd hE (SkipInvJ s g L m news l x j) ?turn (l.length - j) _ ?init
  case init => exact ⟨s.heap, s.toks, m, j, tj, rfl, F, N, fun _ _ => rfl, mJ, rfl, hj, Nat.le_refl _⟩
  case turn =>
    rintro k s1 ⟨h, tk, m', j', tj', rfl, F1, N1, ag, mJ1, esk, hj1, hk⟩
    have mA1 : m' (Str.ofString "actual") = some (.ref la) := (ag _ (by decide)).trans mA
    have mx1 : m' (Str.ofString "a") = some (.int x tx) := (ag _ (by decide)).trans mx
    clear F N
    have hK1 := hK h m' F1 N1
    have hst := skp_step (l := l) (x := x) (i := j')
    k_steps
    · rename_i hlt t1
      by_cases hx : l.getD j' 0 = x
      · refine WhlIf.yes (by simpa using hx) ?_
        rw [if_pos ⟨hlt, hx⟩] at hst
        k_steps
        refine ⟨k - 1, by omega, _, _, _, j' + 1, _, rfl, by assumption, by assumption, fun y hy => ?_, rfl, hst.symm.trans esk, by omega, by omega⟩
        exact (if_neg hy).trans (ag y hy)
      · refine WhlIf.no (by simpa using hx) ?_
        rw [if_neg fun q => hx q.2] at hst
        k_steps
        rw [esk] at hst
        exact hend h _ m' tj' F1 N1 ag (by rw [hst]; exact mJ1) (by omega)
    · refine ⟨fun hle h' tk' e hx => ?_⟩
      rw [if_neg fun q => absurd q.1 (by omega), esk] at hst
      exact hraise h m' tj' F1 N1 ag (by rw [hst]; exact mJ1) (by omega) h' tk' e hx
end
end
end Mine
end
section -- C9b
open PySem PySem.W PyProof.Rows PySem.Spec PySem.Calls
namespace Mine
section
theorem tryE {w : World} {A : Around} {E : Value → Shared → Prop} {s : Shared} {env : Env} {body orelse : List Stmt} {h₀ : ExceptHandler} {hs : List ExceptHandler} {pos : Pos} {Q : Flow → Shared → Prop} (Nt : Value → Shared → Prop)
    (hbody : wpAny (model prog0 w) A (execs body env) (fun f s₁ => match f with | .next => wpAny (model prog0 w) A (execs orelse env) Q E s₁ | f => Q f s₁) (fun e s₁ => wpAny (model prog0 w) A (noteFrame e env) (fun _ s₂ => Nt e s₂) (fun _ _ => False) s₁) s)
    (hN : ∀ e s₂, Nt e s₂ → wpAny (model prog0 w) A (setFlight e none) (fun _ s₃ => wpAny (model prog0 w) A (handleBy e env (h₀ :: hs)) Q E s₃) E s₂) : wpAny (model prog0 w) A (exec (.Try body (h₀ :: hs) orelse [] pos) env) Q E s :=
  wpAny_Try_except (wpAny_mono hbody (fun _ _ x => x) fun e s₁ hx => wpAny_mono hx (fun _ s₂ y => hN e s₂ y) fun _ _ z => z.elim)
theorem finE {w : World} {A : Around} {E : Value → Shared → Prop} {s : Shared} {env : Env} {body orelse : List Stmt} {f₀ : Stmt} {fs : List Stmt} {pos : Pos} {Q : Flow → Shared → Prop} (Nt : Value → Shared → Prop)
    (hbody : wpAny (model prog0 w) A (execs body env)
          (fun f s₁ => match f with
            | .next => wpAny (model prog0 w) A (execs orelse env)
                (fun f' s₂ => wpAny (model prog0 w) A (execs (f₀ :: fs) env) (fun g s' => match g with | .next => Q f' s' | g => Q g s') (notedBy (model prog0 w) A env (cameBackBy (model prog0 w) A env E)) s₂) (FinallyRaised prog0 w A E env (f₀ :: fs) Q) s₁
            | f => wpAny (model prog0 w) A (execs (f₀ :: fs) env) (fun g s' => match g with | .next => Q f s' | g => Q g s') (notedBy (model prog0 w) A env (cameBackBy (model prog0 w) A env E)) s₁)
          (fun e s₁ => wpAny (model prog0 w) A (noteFrame e env) (fun _ s₂ => Nt e s₂) (fun _ _ => False) s₁) s)
    (hN : ∀ e s₂, Nt e s₂ → FinallyRaised prog0 w A E env (f₀ :: fs) Q e s₂) : wpAny (model prog0 w) A (exec (.Try body [] orelse (f₀ :: fs) pos) env) Q E s :=
  wpAny_Try_finally (wpAny_mono hbody (fun _ _ x => x) fun e s₁ hx => wpAny_mono hx (fun _ s₂ y => hN e s₂ y) fun _ _ z => z.elim)
theorem out0 {w : World} {A : Around} (hA : A.handled = none) {la : Addr} {lvs : List Value} {l : List Int} (hi : IntsAre lvs l) {s' : Shared} {E' : Value → Shared → Prop} {Q' : Value → Shared → Prop} {j : Nat} {t : Tok} (_ : (fun _ : Heap => True) s'.heap) (hl : s'.heap.IsList la lvs.toArray) (hj : l.length ≤ j) (h2 : j ≤ 2000)
    (hE : ∀ h' tk e, ExcNew s'.heap h' e .none → E' (.ref e) { s' with heap := h', toks := tk }) : wpAny (model prog0 w) A (getItem (.ref la) (.int j t)) Q' E' s' := by
  have hsz : lvs.toArray.size = l.length := by simp [hi.length]
  exact wpAny_getItem_list_out hA hl (by rw [hsz]; omega) (by omega) (by omega) fun h' tk e x => hE h' tk e (ExcNew.of x)
theorem out1 {w : World} {A : Around} {e0 : Addr} {o : Obj} {t0 tb : Value} (hA : A.handled = some (.ref e0)) {la : Addr} {lvs : List Value} {l : List Int} (hi : IntsAre lvs l) {s' : Shared} {E' : Value → Shared → Prop} {Q' : Value → Shared → Prop} {j : Nat} {t : Tok} (hK : (fun h : Heap => h.get? e0 = some (EX o t0 tb .none)) s'.heap) (hl : s'.heap.IsList la lvs.toArray) (hj : l.length ≤ j) (h2 : j ≤ 2000)
    (hE : ∀ h' tk e, ExcNew s'.heap h' e (.ref e0) → E' (.ref e) { s' with heap := h', toks := tk }) : wpAny (model prog0 w) A (getItem (.ref la) (.int j t)) Q' E' s' := by
  have hsz : lvs.toArray.size = l.length := by simp [hi.length]
  exact getItemOutCtx hA hK rfl rfl hl (by rw [hsz]; exact hj) h2 hE
inductive Noted (g : Heap) (L Lw ea aa : Addr) (oL : Obj) (es as : List Int) (s0 : Shared) (e : Value) (s : Shared) : Prop
  | intro (h : Heap) (tk : Nat) (m : Mp) (i j : Nat) (mis une : List Int) (mv uv : List Value) (M U x tb : Addr) (cm cu : Nat) (ti tj : Tok) (sl : Array (Option Value)) (o : Obj) (t ctx : Value) (tvs : Array Value)
    (c1 : e = .ref x)
    (c2 : s = { s0 with heap := h, toks := tk })
    (c3 : Fr g L h m)
    (c4 : m (Str.ofString "expected") = some (.ref ea))
    (c5 : m (Str.ofString "actual") = some (.ref aa))
    (c6 : m (Str.ofString "i") = some (.int i ti))
    (c7 : m (Str.ofString "j") = some (.int j tj))
    (c8 : m (Str.ofString "missing") = some (.ref M))
    (c9 : m (Str.ofString "unexpected") = some (.ref U))
    (c10 : News g L h [(tb, TB tvs), (x, EX o t (.ref tb) ctx), (Lw, { oL with slots := sl }), (U, listOf (List.toArray uv) cu), (M, listOf (List.toArray mv) cm)])
    (c11 : tvs[3]? = some (rawInt L))
    (c12 : o.cls = .type "IndexError")
    (c13 : IntsAre mv mis)
    (c14 : IntsAre uv une)
    (c15 : mis.length ≤ 100)
    (c16 : une.length ≤ 100)
    (c17 : i ≤ 200)
    (c18 : j ≤ 200)
    (c19 : (@Ne Nat U M ∧ @Ne Nat U Lw ∧ @Ne Nat M Lw))
    (c20 : (@Ne Nat tb x ∧ @Ne Nat tb Lw ∧ @Ne Nat x Lw ∧ @Ne Nat U tb ∧ @Ne Nat M tb ∧ @Ne Nat U x ∧ @Ne Nat M x))
    (c21 : sldOf es as = (mis ++ es.drop i, une ++ as.drop j)) : Noted g L Lw ea aa oL es as s0 e s
inductive SldInv (g : Heap) (L Lw ea aa : Addr) (oL : Obj) (es as : List Int) (s0 : Shared) (k : Nat) (s : Shared) : Prop
  | intro (h : Heap) (tk : Nat) (m : Mp) (i j : Nat) (mis une : List Int) (mv uv : List Value) (M U : Addr) (cm cu : Nat) (ti tj : Tok) (sl : Array (Option Value))
    (c1 : s = { s0 with heap := h, toks := tk })
    (c2 : Fr g L h m)
    (c3 : m (Str.ofString "expected") = some (.ref ea))
    (c4 : m (Str.ofString "actual") = some (.ref aa))
    (c5 : m (Str.ofString "i") = some (.int i ti))
    (c6 : m (Str.ofString "j") = some (.int j tj))
    (c7 : m (Str.ofString "missing") = some (.ref M))
    (c8 : m (Str.ofString "unexpected") = some (.ref U))
    (c9 : News g L h [(U, listOf (List.toArray uv) cu), (M, listOf (List.toArray mv) cm), (Lw, { oL with slots := sl })])
    (c10 : IntsAre mv mis)
    (c11 : IntsAre uv une)
    (c12 : i ≤ es.length)
    (c13 : j ≤ as.length)
    (c14 : mis.length ≤ i)
    (c15 : une.length ≤ j)
    (c16 : (@Ne Nat U M ∧ @Ne Nat U Lw ∧ @Ne Nat M Lw))
    (c17 : (es.length - i) + (as.length - j) ≤ k)
    (c18 : sldOf es as = sldL es as k i j mis une) : SldInv g L Lw ea aa oL es as s0 k s
theorem sldL_end {es as : List Int} {i j : Nat} {mis une : List Int} (h : es.length ≤ i ∨ as.length ≤ j) : ∀ k, sldL es as k i j mis une = (mis ++ es.drop i, une ++ as.drop j)
  | 0 => rfl
  | k + 1 => by
    show (if _ then _ else _) = _
    rw [if_neg (by omega)]
theorem sldL_step {es as : List Int} {k i j : Nat} {mis une : List Int} (hi : i < es.length) (hj : j < as.length) : sldL es as (k + 1) i j mis une =
      if es.getD i 0 < as.getD j 0 then sldL es as k (skp es (es.getD i 0) (i + 1)) j (mis ++ [es.getD i 0]) une
      else if as.getD j 0 < es.getD i 0 then sldL es as k i (skp as (as.getD j 0) (j + 1)) mis (une ++ [as.getD j 0])
      else sldL es as k (skp es (es.getD i 0) (i + 1)) (skp as (as.getD j 0) (j + 1)) mis une := by
  show (if _ then _ else _) = _
  rw [if_pos ⟨hi, hj⟩]
/-- what the frame of the outer one must bear -/
structure Outer (lenv : Env) (Lw : Addr) (oL : Obj) : Prop where
  kind : lenv.scope.kind ≠ .module
  frame : lenv.frame = some Lw
  dict : ∃ es ep, oL.data = .dict es ep
theorem Outer.up {lenv : Env} {Lw : Addr} {oL : Obj} (O : Outer lenv Lw oL) (sl : Array (Option Value)) : Outer lenv Lw { oL with slots := sl } := ⟨O.kind, O.frame, O.dict⟩
/-- an exception raised here comes to the clause -/
theorem raiseN {w : World} {A1 : Around} {env lenv : Env} {s0 : Shared} {g h h' : Heap} {L Lw ea aa e : Addr} {oL : Obj} {es as : List Int} {m : Mp} {i j : Nat} {mis une : List Int} {mv uv : List Value} {M U : Addr} {cm cu tk' : Nat} {ti tj : Tok} {ctx : Value} {more : List (Addr × Obj)}
    (O : Outer lenv Lw oL) (hfr : A1.frames = some [env, lenv]) (hk : env.scope.kind ≠ .module) (hf : env.frame = some L) (F : Fr g L h m) (N : News g L h ((Lw, oL) :: (U, listOf (List.toArray uv) cu) :: (M, listOf (List.toArray mv) cm) :: more)) (hmore : ∀ q ∈ more, q.1 ≠ Lw)
    (mE : m (Str.ofString "expected") = some (.ref ea)) (mA : m (Str.ofString "actual") = some (.ref aa)) (mI : m (Str.ofString "i") = some (.int i ti)) (mJ : m (Str.ofString "j") = some (.int j tj)) (mM : m (Str.ofString "missing") = some (.ref M)) (mU : m (Str.ofString "unexpected") = some (.ref U))
    (him : IntsAre mv mis) (hiu : IntsAre uv une) (lm : mis.length ≤ 100) (lu : une.length ≤ 100) (li : i ≤ 200) (lj : j ≤ 200) (q1 : @Ne Nat U M ∧ @Ne Nat U Lw ∧ @Ne Nat M Lw) (hsld : sldOf es as = (mis ++ es.drop i, une ++ as.drop j)) (x : ExcNew h h' e ctx) {oL0 : Obj} (hsl : ∃ sl, oL = { oL0 with slots := sl }) {Q : Unit → Shared → Prop} {E1 : Value → Shared → Prop}
    (k : ∀ h2, (∀ tk2, Noted g L Lw ea aa oL0 es as s0 (.ref e) { s0 with heap := h2, toks := tk2 }) → Q () { s0 with heap := h2, toks := tk' }) :
    wpAny (model prog0 w) A1 (noteFrame (.ref e) env) Q E1 { s0 with heap := h', toks := tk' } := by
  obtain ⟨sl0, rfl⟩ := hsl
  refine noteNew hfr hk hf O.kind O.frame O.dict F N (fun q hq => ?_) x ?_
  · revert q
    refine List.forall_mem_cons.mpr ⟨?_, List.forall_mem_cons.mpr ⟨?_, fun q hq => ?_⟩⟩
    · exact neN q1.2.1
    · exact neN q1.2.2
    exact hmore q hq
  intro h2 o t tb tvs sl hcls F2 N2 h3 ⟨n1, n2, n3, n4, n5⟩
  exact k h2 fun tk2 => ⟨h2, tk2, m, i, j, mis, une, mv, uv, M, U, e, tb, cm, cu, ti, tj, sl, o, t, ctx, tvs, rfl, rfl, F2, mE, mA, mI, mJ, mM, mU, (fun q hq => N2 q (by
      revert q
      refine List.forall_mem_cons.mpr ⟨?_, List.forall_mem_cons.mpr ⟨?_, List.forall_mem_cons.mpr ⟨?_, List.forall_mem_cons.mpr ⟨?_, List.forall_mem_cons.mpr ⟨?_, fun q hq => ?_⟩⟩⟩⟩⟩
      · exact .head _
      · exact .tail _ (.head _)
      · exact .tail _ (.tail _ (.head _))
      · exact .tail _ (.tail _ (.tail _ (.head _)))
      · exact .tail _ (.tail _ (.tail _ (.tail _ (.head _))))
      exact nomatch hq)), h3, hcls, him, hiu, lm, lu, li, lj, q1, ⟨n1, n2, n3, n4 _ (.head _), n4 _ (.tail _ (.head _)), n5 _ (.head _), n5 _ (.tail _ (.head _))⟩, hsld⟩
/-- an exception on its way through the clause behind -/
inductive NotedF (g : Heap) (L Lw ea aa : Addr) (oL : Obj) (mv uv : List Value) (M U : Addr) (cm cu i j : Nat) (a : Int) (s0 : Shared) (e : Value) (s : Shared) : Prop
  | intro (h : Heap) (tk : Nat) (m : Mp) (x tb : Addr) (ti tj ta : Tok) (sl : Array (Option Value)) (o : Obj) (t : Value) (tvs : Array Value)
    (c1 : e = .ref x)
    (c2 : s = { s0 with heap := h, toks := tk })
    (c3 : Fr g L h m)
    (c4 : m (Str.ofString "expected") = some (.ref ea))
    (c5 : m (Str.ofString "actual") = some (.ref aa))
    (c6 : m (Str.ofString "i") = some (.int i ti))
    (c7 : m (Str.ofString "j") = some (.int j tj))
    (c8 : m (Str.ofString "missing") = some (.ref M))
    (c9 : m (Str.ofString "unexpected") = some (.ref U))
    (c10 : m (Str.ofString "a") = some (.int a ta))
    (c11 : News g L h [(tb, TB tvs), (x, EX o t (.ref tb) .none), (Lw, { oL with slots := sl }), (U, listOf (List.toArray uv) cu), (M, listOf (List.toArray mv) cm)])
    (c12 : tvs[3]? = some (rawInt L))
    (c13 : o.cls = .type "IndexError")
    (c14 : (@Ne Nat tb x ∧ @Ne Nat tb Lw ∧ @Ne Nat x Lw ∧ @Ne Nat U tb ∧ @Ne Nat M tb ∧ @Ne Nat U x ∧ @Ne Nat M x)) : NotedF g L Lw ea aa oL mv uv M U cm cu i j a s0 e s
theorem raiseF {w : World} {A1 : Around} {env lenv : Env} {s0 : Shared} {g h h' : Heap} {L Lw ea aa e : Addr} {oL : Obj} {m : Mp} {i j : Nat} {mv uv : List Value} {M U : Addr} {cm cu tk' : Nat} {ti tj ta : Tok} {a : Int}
    (O : Outer lenv Lw oL) (hfr : A1.frames = some [env, lenv]) (hk : env.scope.kind ≠ .module) (hf : env.frame = some L) (F : Fr g L h m) (N : News g L h ((Lw, oL) :: (U, listOf (List.toArray uv) cu) :: (M, listOf (List.toArray mv) cm) :: []))
    (mE : m (Str.ofString "expected") = some (.ref ea)) (mA : m (Str.ofString "actual") = some (.ref aa)) (mI : m (Str.ofString "i") = some (.int i ti)) (mJ : m (Str.ofString "j") = some (.int j tj)) (mM : m (Str.ofString "missing") = some (.ref M)) (mU : m (Str.ofString "unexpected") = some (.ref U)) (ma : m (Str.ofString "a") = some (.int a ta))
    (q1 : @Ne Nat U M ∧ @Ne Nat U Lw ∧ @Ne Nat M Lw) (x : ExcNew h h' e .none) {oL0 : Obj} (hsl : ∃ sl, oL = { oL0 with slots := sl }) {E1 : Value → Shared → Prop} :
    wpAny (model prog0 w) A1 (noteFrame (.ref e) env) (fun _ s₂ => NotedF g L Lw ea aa oL0 mv uv M U cm cu i j a s0 (.ref e) s₂) E1 { s0 with heap := h', toks := tk' } := by
  obtain ⟨sl0, rfl⟩ := hsl
  refine noteNew hfr hk hf O.kind O.frame O.dict F N (fun q hq => ?_) x ?_
  · rcases List.mem_cons.mp hq with rfl | hq
    · exact neN q1.2.1
    rw [List.mem_singleton.mp hq]
    exact neN q1.2.2
  intro h2 o t tb tvs sl hcls F2 N2 h3 ⟨n1, n2, n3, n4, n5⟩
  exact ⟨h2, tk', m, e, tb, ti, tj, ta, sl, o, t, tvs, rfl, rfl, F2, mE, mA, mI, mJ, mM, mU, ma, N2, h3, hcls, ⟨n1, n2, n3, n4 _ (.head _), n4 _ (.tail _ (.head _)), n5 _ (.head _), n5 _ (.tail _ (.head _))⟩⟩
/-- the same behind the frame's own activation -/
theorem backN {w : World} {A : Around} {env : Env} {s0 s : Shared} {g : Heap} {L Lw ea aa : Addr} {oL : Obj} {es as : List Int} {e : Value} (hf : env.frame = some L) (h : Noted g L Lw ea aa oL es as s0 e s) :
    cameBackBy (model prog0 w) A env (fun e s₁ => wpAny (model prog0 w) A (noteFrame e env) (fun _ s₂ => Noted g L Lw ea aa oL es as s0 e s₂) (fun _ _ => False) s₁) e s := by
  obtain ⟨h, tk, m, i, j, mis, une, mv, uv, M, U, x, tb, cm, cu, ti, tj, sl, o, t, ctx, tvs, rfl, rfl, F, mE, mA, mI, mJ, mM, mU, N, h3, hcls, him, hiu, lm, lu, li, lj, q1, ⟨n1, n2, n3, n4, n5, n6, n7⟩, hsld⟩ := h
  refine wpAny_bind (wpAny_field (N.get (.tail _ (.head _))) rfl (x := .ref tb) rfl ?_)
  rw [if_neg (by simp)]
  rw [hf]
  refine flight F N n1 ?_ h3 ?_
  · exact List.forall_mem_cons.mpr ⟨neN (Ne.symm n2), List.forall_mem_cons.mpr ⟨neN n4, List.forall_mem_cons.mpr ⟨neN n5, fun _ h => nomatch h⟩⟩⟩
  intro h1 tvs1 F1 N1 h31
  refine noteAgain hf (N1.get (.tail _ (.head _))) (N1.get (.head _)) h31 ?_
  exact ⟨h1, tk, m, i, j, mis, une, mv, uv, M, U, x, tb, cm, cu, ti, tj, sl, o, t, ctx, tvs1, rfl, rfl, F1, mE, mA, mI, mJ, mM, mU, N1, h31, hcls, him, hiu, lm, lu, li, lj, q1, ⟨n1, n2, n3, n4, n5, n6, n7⟩, hsld⟩
end
end Mine
end
theorem Mine.freshC9 : True := by
  w_top off
  trivial
section -- C9
open PySem PySem.W PyProof.Rows PySem.Spec PySem.Calls
namespace Mine
section
local macro_rules | `(tactic| walk_at "execs cons") => `(tactic| (k_here; (try dsimp only); (try k_fold); (try k_gentoks); refine wpAny_execs_cons ?_; k_fold))
local macro_rules | `(tactic| walk_at "exec While Constant cons nil") => `(tactic| (refine whlHid ?_))
local macro_rules | `(tactic| walk_at "exec While Compare cons nil") => `(tactic| (refine Hid.out ?_))
local macro_rules | `(tactic| walk_at "exec Try cons nil") => `(tactic| (refine Hid.out ?_))
local macro_rules | `(tactic| walk_at "WPost") => `(tactic| (refine Hid.out ?_))
local macro_rules | `(tactic| walk_at "subscriptTail Name Name ref int") => `(tactic| (k_dflt (refine' itemOut (K := fun _ => True) (ctx := .none) ?o ?l ?i ?b ?k True.intro ?_ ?_ ?z; (case z => with_unfolding_all rfl); (case l => kmk_list); (case i => assumption); (case o => (intro s' E' Q' j t; exact out0 rfl (by assumption))); (case b => omega); (case k => omega)); rotate_left 1; intro _ _))
local macro_rules | `(tactic| walk_at "call builtin:list.extend") => `(tactic| ((with_reducible show wpAny _ _ (call (Value.builtin _) [Value.ref _, Value.ref _]) _ _ _); k_dflt (refine' extendW ?F ?N ?m ?b ?i ?j ?y ?z ?U ?_; (case F => k_asm); (case N => k_asm); (case m => k_mem); (case b => k_mem); (case i => assumption); (case j => assumption); (case U => (intro c'; k_upd)); (case y => omega); (case z => omega)); intro h' c' us' eu' F' N' hi'; rw [← eu'] at N'; (try k_sweep)))
set_option maxRecDepth 100000 in
set_option maxHeartbeats 8000000 in
theorem sld {w : World} {hb : Heap} {p : Program} {loose : List Str} {mean : ExcName → Option Value} {mg mb : Str → Option Value}
   {A : Around} {s : Shared} {Q E : Value → Shared → Prop} {lenv : Env} {Lw ea aa : Addr} {oL : Obj} {evs avs : List Value} {es as : List Int}
   (X : (hd.heap_39 w.params).In hb) (T : Top p loose mean mg mb hb) (st : hb.StaysIn s.heap)
   (hdp : A.depth + 10 < recursionLimit) (hun : A.units + 200 < cLine) (hh : A.handled = none) (hfr : A.frames = some [lenv]) (O : Outer lenv Lw oL) (hL : s.heap.get? Lw = some oL) (hbL : hb.get? Lw = none)
   (h1 : s.heap.IsList ea evs.toArray) (i1 : IntsAre evs es) (h2 : s.heap.IsList aa avs.toArray) (i2 : IntsAre avs as) (l1 : es.length ≤ 100) (l2 : as.length ≤ 100)
   (hret : ∀ t M U mv uv cm cu h' tk' sl, Grow [Lw] s.heap h' → h'.get? Lw = some { oL with slots := sl } → h'.get? t = some (tupObj [.ref M, .ref U]) → h'.get? M = some (listOf (List.toArray mv) cm) → h'.get? U = some (listOf (List.toArray uv) cu) → (s.heap.get? t = none ∧ s.heap.get? M = none ∧ s.heap.get? U = none) →
     IntsAre mv (sldOf es as).1 → IntsAre uv (sldOf es as).2 → Q (.ref t) { s with heap := h', toks := tk' }) :
    wpAny (model prog0 w) A (call (.ref 93) [.ref ea, .ref aa]) Q E s := by
  revert X; unfold prog0; k_fill; intro X
  obtain ⟨hdl, dp, fr, gd, un⟩ := A
  obtain rfl : hdl = none := hh
  obtain rfl : fr = some [lenv] := hfr
  dsimp only at hdp hun
  have hLd := O.dict
  have hn : ∀ q ∈ [(Lw, oL)], s.heap.get? q.1 = some q.2 ∧ hb.get? q.1 = none := fun q hq => by
    rw [List.mem_singleton.mp hq]; exact ⟨hL, hbL⟩
  k_dflt ( refine' wpAny_call (enterX (by assumption) (by assumption) (by assumption) (by assumption) (by k_is) (by k_is) (by dsimp only; omega) (by exact BindsTo.of_eq rfl) (by exact locs rfl) ?_ (by decide) (by exact rfl) (by exact rfl) (by exact rfl)))
  intro g L' h' G S l F N X' T' st'
  have h1' : g.IsList ea evs.toArray := h1.at fun o e => G _ _ e (nin1 fun q => by
    obtain ⟨o, e1, _, n, e2⟩ := h1
    obtain ⟨es, ep, e3⟩ := hLd
    rw [q, hL] at e1; cases e1; rw [e3] at e2; cases e2)
  have h2' : g.IsList aa avs.toArray := h2.at fun o e => G _ _ e (nin1 fun q => by
    obtain ⟨o, e1, _, n, e2⟩ := h2
    obtain ⟨es, ep, e3⟩ := hLd
    rw [q, hL] at e1; cases e1; rw [e3] at e2; cases e2)
  try dsimp only
  try k_fold
  k_steps
  rename_i tk0 _ _ M0 h20 l20 h30 tk1 _ _ U0 h40 l40 h50 F3 N3
  refine ⟨?_⟩
  refine whlInd (by k_dflt passes_own) (SldInv g L' Lw ea aa oL es as s) ?turn (es.length + as.length) _ ?init
  case init =>
    refine ⟨h50, _, _, 0, 0, [], [], [], [], M0, U0, 0, 0, _, _, oL.slots, rfl, F3, rfl, rfl, rfl, rfl, rfl, rfl, N3, .nil, .nil, by omega, by omega, by simp, by simp, ⟨by omega, by omega, by omega⟩, by omega, rfl⟩
  case turn =>
    rintro k s1 ⟨h, tk, m, i, j, mis, une, mv, uv, M, U, cm, cu, ti, tj, sl, rfl, F, mE, mA, mI, mJ, mM, mU, N, him, hiu, li, lj, lm, lu, q1, hk, hsld⟩
    have q1' := q1
    obtain ⟨q1a, q1b, q1c⟩ := q1'
    k_steps
    refine tryE (Noted g L' Lw ea aa oL es as s) ?body ?hand
    case hand =>
      rintro e s2 ⟨h, tk, m, i, j, mis, une, mv, uv, M, U, x, tb, cm, cu, ti, tj, sl, o, t, ctx, tvs, rfl, rfl, F, mE, mA, mI, mJ, mM, mU, N, h3, hcls, him, hiu, lm, lu, li, lj, ⟨q1, q2, q3⟩, ⟨n1, n2, n3, n4, n5, n6, n7⟩, hsld⟩
      have off : ∀ q ∈ [(Lw, { oL with slots := sl }), (U, listOf (List.toArray uv) cu), (M, listOf (List.toArray mv) cm)], q.1 ≠ tb := List.forall_mem_cons.mpr ⟨neN (Ne.symm n2), List.forall_mem_cons.mpr ⟨neN n4, List.forall_mem_cons.mpr ⟨neN n5, fun _ h => nomatch h⟩⟩⟩
      refine flight F N n1 off h3 ?_
      intro h1 tvs1 F1 N1 h31
      refine wpAny_handleBy_builtin (X := "IndexError") (T := "IndexError") (b := true) PySem.F.isExc_IndexError PySem.F.notTuple_IndexError (by rw [isSubtype_type]; kernel_rfl) ?_
      walk1
      refine ⟨rfl, ⟨_, N1.get (.tail _ (.head _)), hcls⟩, ?_⟩
      rw [if_pos rfl]
      refine flight F1 N1 n1 off h31 ?_
      intro h2 tvs2 F2 N2 h32
      clear F N F1 N1
      k_steps
      refine ⟨?_⟩
      (try dsimp only)
      k_steps
      refine ⟨?_⟩
      unfold WPost
      dsimp only
      k_steps
      rename_i D2 ws1 h4 hI1 a1 hL1 l2 h3 c1 us1 eu1 hi1 _ _ D1 ws0 h2 hI0 a0 hL0 l1' h1 c0 us0 eu0 hi0 _ _ D0 h0 F0 N0 l0
      have ti0 : ((i : Nat) : Int).toNat = i := by omega
      have tj0 : ((j : Nat) : Int).toNat = j := by omega
      rw [ti0] at hi1
      rw [tj0] at hi0
      refine hret D0 M U us1 us0 c1 c0 h0 _ sl (fun b o e n => F0.keep b o (G b o e n)) (N0.get (by k_mem)) (N0.get (by k_mem)) (N0.get (by k_mem)) (N0.get (by k_mem)) ⟨G.fresh (N0.fresh (.head _)) (nin1 (show @Ne Nat D0 Lw by omega)), G.fresh (N0.fresh (o := listOf (List.toArray us1) c1) (by k_mem)) (nin1 q3), G.fresh (N0.fresh (o := listOf (List.toArray us0) c0) (by k_mem)) (nin1 q2)⟩ (by rw [hsld]; exact hi1) (by rw [hsld]; exact hi0)
    case body =>
      k_steps
      · rename_i hi0 te h7 _ _ _ hj0 ta h8 _ _ _ hlt _ _ h9 _ _ h10 F9 N9
        refine ⟨?_⟩
        obtain ⟨k', rfl⟩ : ∃ k', k = k' + 1 := ⟨k - 1, by omega⟩
        rw [sldL_step hi0 hj0, if_pos hlt] at hsld
        rw [List.push_toArray] at N9
        have him' := IntsAre.append him (.cons (es.getD i 0) te .nil)
        have sk := skp_le (l := es) (x := es.getD i 0) (i := i + 1)
        refine skipI (K := fun _ => True) (ctx := .none) (j := i + 1) rfl (out0 rfl i1) (by k_dflt passes_own) h1' i1 l1 (by omega) F9 N9 mE rfl rfl (fun _ _ _ _ => trivial) ?hend1 ?hraise1
        case hend1 =>
          intro h3 tk3 m3 ti3 F3 N3 ag mI3 hlt3
          k_steps
          refine ⟨⟨k', Nat.lt_succ_self _, h3, tk3, m3, _, j, _, une, _, uv, M, U, cm + 1, cu, ti3, tj, sl, rfl, F3, (ag _ (by decide)).trans mE, (ag _ (by decide)).trans mA, mI3, (ag _ (by decide)).trans mJ, (ag _ (by decide)).trans mM, (ag _ (by decide)).trans mU, N3, him', hiu, by omega, by omega, by (simp only [List.length_append, List.length_singleton]; omega), by omega, q1, by omega, hsld⟩⟩
        case hraise1 =>
          intro h3 m3 ti3 F3 N3 ag mI3 heq h' tk' e x
          refine raiseN (s0 := s) (cm := cm + 1) (cu := cu) (O.up sl) (more := []) rfl (by intro q; cases q) rfl F3 (fun q hq => N3 q ?_) (fun _ h => nomatch h) ((ag _ (by decide)).trans mE) ((ag _ (by decide)).trans mA) mI3 ((ag _ (by decide)).trans mJ) ((ag _ (by decide)).trans mM) ((ag _ (by decide)).trans mU) him' hiu (by (simp only [List.length_append, List.length_singleton]; omega)) (by omega) (by omega) (by omega) q1 (by rw [hsld]; exact sldL_end (.inl (by omega)) k') x ⟨sl, rfl⟩ fun h2 hN => hN _
          revert q
          refine List.forall_mem_cons.mpr ⟨?_, List.forall_mem_cons.mpr ⟨?_, List.forall_mem_cons.mpr ⟨?_, fun q hq => ?_⟩⟩⟩
          · exact .tail _ (.tail _ (.head _))
          · exact .head _
          · exact .tail _ (.head _)
          exact nomatch hq
      · rename_i hi0 te h7 _ _ _ hj0 ta h8 _ _ _ hnlt _ _ hgt _ _ h9 _ _ h10 F9 N9
        refine ⟨?_⟩
        obtain ⟨k', rfl⟩ : ∃ k', k = k' + 1 := ⟨k - 1, by omega⟩
        rw [sldL_step hi0 hj0, if_neg hnlt, if_pos hgt] at hsld
        rw [List.push_toArray] at N9
        have hiu' := IntsAre.append hiu (.cons (as.getD j 0) ta .nil)
        have sk := skp_le (l := as) (x := as.getD j 0) (i := j + 1)
        refine skipJ (K := fun _ => True) (ctx := .none) (j := j + 1) rfl (out0 rfl i2) (by k_dflt passes_own) h2' i2 l2 (by omega) F9 N9 mA rfl rfl (fun _ _ _ _ => trivial) ?hend2 ?hraise2
        case hend2 =>
          intro h3 tk3 m3 ti3 F3 N3 ag mJ3 hlt3
          k_steps
          refine ⟨⟨k', Nat.lt_succ_self _, h3, tk3, m3, i, _, mis, _, mv, _, M, U, cm, cu + 1, ti, ti3, sl, rfl, F3, (ag _ (by decide)).trans mE, (ag _ (by decide)).trans mA, (ag _ (by decide)).trans mI, mJ3, (ag _ (by decide)).trans mM, (ag _ (by decide)).trans mU, N3, him, hiu', by omega, by omega, by omega, by (simp only [List.length_append, List.length_singleton]; omega), q1, by omega, hsld⟩⟩
        case hraise2 =>
          intro h3 m3 ti3 F3 N3 ag mJ3 heq h' tk' e x
          refine raiseN (s0 := s) (cm := cm) (cu := cu + 1) (O.up sl) (more := []) rfl (by intro q; cases q) rfl F3 (fun q hq => N3 q ?_) (fun _ h => nomatch h) ((ag _ (by decide)).trans mE) ((ag _ (by decide)).trans mA) ((ag _ (by decide)).trans mI) mJ3 ((ag _ (by decide)).trans mM) ((ag _ (by decide)).trans mU) him hiu' (by omega) (by simp only [List.length_append, List.length_singleton]; omega) (by omega) (by omega) q1 (by rw [hsld]; exact sldL_end (.inr (by omega)) k') x ⟨sl, rfl⟩ fun h2 hN => hN _
          revert q
          refine List.forall_mem_cons.mpr ⟨?_, List.forall_mem_cons.mpr ⟨?_, List.forall_mem_cons.mpr ⟨?_, fun q hq => ?_⟩⟩⟩
          · exact .tail _ (.tail _ (.head _))
          · exact .head _
          · exact .tail _ (.head _)
          exact nomatch hq
      · rename_i hi0 te h7 _ _ _ hj0 ta h8 _ _ _ hnlt _ _ hngt _ _ h10 F9 N9
        refine ⟨?_⟩
        obtain ⟨k', rfl⟩ : ∃ k', k = k' + 1 := ⟨k - 1, by omega⟩
        rw [sldL_step hi0 hj0, if_neg hnlt, if_neg hngt] at hsld
        have sk := skp_le (l := es) (x := es.getD i 0) (i := i + 1)
        have sk2 := skp_le (l := as) (x := as.getD j 0) (i := j + 1)
        refine finE (fun e s1 => skp es (es.getD i 0) (i + 1) = es.length ∧ NotedF g L' Lw ea aa oL mv uv M U cm cu es.length j (as.getD j 0) s e s1) ?fbody ?fin
        case fbody =>
          k_steps
          refine ⟨?_⟩
          refine skipI (K := fun _ => True) (ctx := .none) (j := i + 1) rfl (out0 rfl i1) (by k_dflt passes_own) h1' i1 l1 (by omega) F9 N9 mE rfl rfl (fun _ _ _ _ => trivial) ?hend3 ?hraise3
          case hraise3 =>
            intro h3 m3 ti3 F3 N3 ag mI3 heq h' tk' e x
            rw [heq] at mI3
            refine wpAny_mono (raiseF (E1 := fun _ _ => False) (s0 := s) (cm := cm) (cu := cu) (O.up sl) rfl (by intro q; cases q) rfl F3 (fun q hq => N3 q ?_) ((ag _ (by decide)).trans mE) ((ag _ (by decide)).trans mA) mI3 ((ag _ (by decide)).trans mJ) ((ag _ (by decide)).trans mM) ((ag _ (by decide)).trans mU) (ag _ (by decide)) q1 x ⟨sl, rfl⟩) (fun _ _ h => ⟨heq, h⟩) (fun _ _ z => z)
            revert q
            refine List.forall_mem_cons.mpr ⟨?_, List.forall_mem_cons.mpr ⟨?_, List.forall_mem_cons.mpr ⟨?_, fun q hq => ?_⟩⟩⟩
            · exact .tail _ (.tail _ (.head _))
            · exact .head _
            · exact .tail _ (.head _)
            exact nomatch hq
          case hend3 =>
            intro h3 tk3 m3 ti3 F3 N3 ag mI3 hlt3
            have mE3 := (ag (Str.ofString "expected") (by decide)).trans mE
            have mA3 := (ag (Str.ofString "actual") (by decide)).trans mA
            have mJ3 := (ag (Str.ofString "j") (by decide)).trans mJ
            have mM3 := (ag (Str.ofString "missing") (by decide)).trans mM
            have mU3 := (ag (Str.ofString "unexpected") (by decide)).trans mU
            have ma3 := (ag (Str.ofString "a") (by decide))
            k_steps
            rename Fr _ _ _ _ => F11
            rename News _ _ _ _ => N11
            refine ⟨?_⟩
            refine skipJ (K := fun _ => True) (ctx := .none) (j := j + 1) (x := as.getD j 0) rfl (out0 rfl i2) (by k_dflt passes_own) h2' i2 l2 (by omega) F11 N11 mA3 rfl ma3 (fun _ _ _ _ => trivial) ?hend4 ?hraise4
            case hend4 =>
              intro h5 tk5 m5 tj5 F5 N5 ag5 mJ5 hlt5
              k_steps
              refine ⟨⟨k', Nat.lt_succ_self _, h5, tk5, m5, _, _, mis, une, mv, uv, M, U, cm, cu, ti3, tj5, sl, rfl, F5, (ag5 _ (by decide)).trans mE3, (ag5 _ (by decide)).trans mA3, (ag5 _ (by decide)).trans mI3, mJ5, (ag5 _ (by decide)).trans mM3, (ag5 _ (by decide)).trans mU3, N5, him, hiu, by omega, by omega, by omega, by omega, q1, by omega, hsld⟩⟩
            case hraise4 =>
              intro h5 m5 tj5 F5 N5 ag5 mJ5 heq5 h' tk' e x
              refine raiseN (s0 := s) (cm := cm) (cu := cu) (O.up sl) (more := []) rfl (by intro q; cases q) rfl F5 (fun q hq => N5 q ?_) (fun _ h => nomatch h) ((ag5 _ (by decide)).trans mE3) ((ag5 _ (by decide)).trans mA3) ((ag5 _ (by decide)).trans mI3) mJ5 ((ag5 _ (by decide)).trans mM3) ((ag5 _ (by decide)).trans mU3) him hiu (by omega) (by omega) (by omega) (by omega) q1 (by rw [hsld]; exact sldL_end (.inr (by omega)) k') x ⟨sl, rfl⟩ fun h2 hN => backN rfl (hN _)
              revert q
              refine List.forall_mem_cons.mpr ⟨?_, List.forall_mem_cons.mpr ⟨?_, List.forall_mem_cons.mpr ⟨?_, fun q hq => ?_⟩⟩⟩
              · exact .tail _ (.tail _ (.head _))
              · exact .head _
              · exact .tail _ (.head _)
              exact nomatch hq
        case fin =>
          rintro e s2 ⟨heq, h3, tk3, m3, x, tb, ti3, tj3, ta3, sl3, o, t, tvs, rfl, rfl, F3, mE3, mA3, mI3, mJ3, mM3, mU3, ma3, N3, h33, hcls, ⟨n1, n2, n3, n4, n5, n6, n7⟩⟩
          refine ⟨ref_ne_byPass _, ?_⟩
          refine noteAgain rfl (N3.get (.tail _ (.head _))) (N3.get (.head _)) h33 ?_
          refine flight F3 N3 n1 (List.forall_mem_cons.mpr ⟨neN (Ne.symm n2), List.forall_mem_cons.mpr ⟨neN n4, List.forall_mem_cons.mpr ⟨neN n5, fun _ h => nomatch h⟩⟩⟩) h33 ?_
          intro h4 tvs4 F4 N4 h34
          clear F3 N3
          k_steps
          rename Fr _ _ _ _ => F12
          rename News _ _ _ _ => N12
          have off : ∀ q ∈ [(Lw, { oL with slots := sl3 }), (U, listOf (List.toArray uv) cu), (M, listOf (List.toArray mv) cm)], q.1 ≠ tb := List.forall_mem_cons.mpr ⟨neN (Ne.symm n2), List.forall_mem_cons.mpr ⟨neN n4, List.forall_mem_cons.mpr ⟨neN n5, fun _ h => nomatch h⟩⟩⟩
          refine ⟨?_⟩
          refine skipJ (K := fun h => h.get? x = some (EX o t (.ref tb) .none)) (ctx := .ref x) (j := j + 1) (x := as.getD j 0) rfl (out1 rfl i2) (by k_dflt passes_own) h2' i2 l2 (by omega) F12 N12 mA3 rfl ma3 (fun h m' _ N => N.get (.tail _ (.head _))) ?hend5 ?hraise5
          case hend5 =>
            intro h5 tk5 m5 tj5 F5 N5 ag5 mJ5 hlt5
            k_steps
            unfold PySem.passOn
            refine wpAny_bind (wpAny_field (N5.get (.tail _ (.head _))) rfl (x := .ref tb) rfl ?_)
            rw [if_neg (by simp)]
            refine wpAny_bind (flight (fl := some L') F5 N5 n1 off h34 ?_)
            intro h6 tvs6 F6 N6 h36
            refine wpAny_throw ?_
            refine noteAgain rfl (N6.get (.tail _ (.head _))) (N6.get (.head _)) h36 ?_
            exact ⟨h6, tk5, m5, es.length, _, mis, une, mv, uv, M, U, x, tb, cm, cu, ti3, tj5, sl3, o, t, .none, tvs6, rfl, rfl, F6, (ag5 _ (by decide)).trans mE3, (ag5 _ (by decide)).trans mA3, (ag5 _ (by decide)).trans mI3, mJ5, (ag5 _ (by decide)).trans mM3, (ag5 _ (by decide)).trans mU3, N6, h36, hcls, him, hiu, by omega, by omega, by omega, by omega, q1, ⟨n1, n2, n3, n4, n5, n6, n7⟩, by rw [hsld, heq]; exact sldL_end (.inl (Nat.le_refl _)) k'⟩
          case hraise5 =>
            intro h5 m5 tj5 F5 N5 ag5 mJ5 heq5 h' tk' e x5
            refine raiseN (s0 := s) (cm := cm) (cu := cu) (O.up sl3) (more := [(tb, TB tvs4), (x, EX o t (.ref tb) .none)]) rfl (by intro q; cases q) rfl F5 (fun q hq => N5 q ?_) (List.forall_mem_cons.mpr ⟨neN n2, List.forall_mem_cons.mpr ⟨neN n3, fun _ h => nomatch h⟩⟩) ((ag5 _ (by decide)).trans mE3) ((ag5 _ (by decide)).trans mA3) ((ag5 _ (by decide)).trans mI3) mJ5 ((ag5 _ (by decide)).trans mM3) ((ag5 _ (by decide)).trans mU3) him hiu (by omega) (by omega) (by omega) (by omega) q1 (by rw [hsld, heq]; exact sldL_end (.inl (Nat.le_refl _)) k') x5 ⟨sl3, rfl⟩ fun h2 hN => backN rfl (hN _)
            revert q
            refine List.forall_mem_cons.mpr ⟨?_, List.forall_mem_cons.mpr ⟨?_, List.forall_mem_cons.mpr ⟨?_, List.forall_mem_cons.mpr ⟨?_, List.forall_mem_cons.mpr ⟨?_, fun q hq => ?_⟩⟩⟩⟩⟩
            · k_mem
            · k_mem
            · k_mem
            · k_mem
            · k_mem
            exact nomatch hq
      · rename_i hi0 te h7 F7 N7
        refine ⟨fun hle h' tk' e x => ?_⟩
        refine raiseN (s0 := s) (cm := cm) (cu := cu) (O.up sl) (more := []) rfl (by intro q; cases q) rfl F7 (fun q hq => N7 q ?_) (fun _ h => nomatch h) mE mA mI mJ mM mU him hiu (by omega) (by omega) (by omega) (by omega) q1 (by rw [hsld]; exact sldL_end (.inr hle) k) x ⟨sl, rfl⟩ fun h2 hN => hN _
        revert q
        refine List.forall_mem_cons.mpr ⟨?_, List.forall_mem_cons.mpr ⟨?_, List.forall_mem_cons.mpr ⟨?_, fun q hq => ?_⟩⟩⟩
        · exact .tail _ (.tail _ (.head _))
        · exact .head _
        · exact .tail _ (.head _)
        exact nomatch hq
      · refine ⟨fun hle h' tk' e x => ?_⟩
        refine raiseN (s0 := s) (cm := cm) (cu := cu) (O.up sl) (more := []) rfl (by intro q; cases q) rfl F (fun q hq => N q ?_) (fun _ h => nomatch h) mE mA mI mJ mM mU him hiu (by omega) (by omega) (by omega) (by omega) q1 (by rw [hsld]; exact sldL_end (.inl hle) k) x ⟨sl, rfl⟩ fun h2 hN => hN _
        revert q
        refine List.forall_mem_cons.mpr ⟨?_, List.forall_mem_cons.mpr ⟨?_, List.forall_mem_cons.mpr ⟨?_, fun q hq => ?_⟩⟩⟩
        · exact .tail _ (.tail _ (.head _))
        · exact .head _
        · exact .tail _ (.head _)
        exact nomatch hq
end
end Mine
end
end
section
open PySem PySem.W PyProof.Rows PySem.Spec PySem.Calls Mine
local macro_rules | `(tactic| walk_at "binaryOp Mod int int") => `(tactic| (refine modH (by omega) ?_; intro _ _ _ _))
theorem Mine.freshC4 : True := by
  w_top off
  trivial
section -- C4
open PySem PySem.W PyProof.Rows PySem.Spec PySem.Calls
namespace Mine
section
local macro_rules | `(tactic| walk_at "execs cons") => `(tactic| (k_here; (try dsimp only); (try k_fold); (try k_gentoks); refine wpAny_execs_cons ?_; k_fold))
local macro_rules | `(tactic| k_all) => `(tactic| assumption)
local macro_rules | `(tactic| walk_at "binaryOp LShift int int") => `(tactic| (refine lshiftH ?_ ?_ ?_; rotate_left 2; intro _ _))
inductive DivInv (ds : List Int) (vs : List Value) (ep : Nat) (n : Nat) (b : Int) (qd dl : Addr) (tD tI' : Array Value) (ex : List (Addr × Obj)) (r : List Value) (m : Mp) (nw : List (Addr × Obj)) : Prop
  | intro (ps rs qz : List Int) (qvs : List Value) (e : Nat) (rr : Int) (tr tn tb : Tok)
    (c1 : ds.reverse = ps ++ rs)
    (c2 : IntsAre r rs)
    (c3 : m (Str.ofString "n") = some (.int n tn))
    (c4 : m (Str.ofString "b") = some (.int b tb))
    (c5 : m (Str.ofString "r") = some (.int rr tr))
    (c6 : m (Str.ofString "q_digits") = some (.ref qd))
    (c7 : nw = (qd, listOf (List.toArray qvs) e) :: (dl, listOf vs.toArray ep) :: (44, tabObj tD) :: (37, tabObj tI') :: ex)
    (c8 : IntsAre qvs qz)
    (c9 : qz.length = ps.length)
    (c10 : (∀ q ∈ qz, 0 ≤ q ∧ q < 2 ^ 200))
    (c11 : 0 ≤ rr)
    (c12 : rr < b)
    (c13 : dval (2 ^ n) ps.reverse = dval (2 ^ n) qz.reverse * b + rr) : DivInv ds vs ep n b qd dl tD tI' ex r m nw
set_option maxRecDepth 100000 in
set_option maxHeartbeats 8000000 in
theorem divmodPos {w : World} {hb : Heap} {p : Program} {loose : List Str} {mean : ExcName → Option Value} {mg mb : Str → Option Value}
   {A : Around} {s : Shared} {Q E : Value → Shared → Prop} {a b : Int} {t1 t2 : Tok}
   (X : (hd.heap_39 w.params).In hb) (T : Top p loose mean mg mb hb) (st : hb.StaysIn s.heap) (h44 : hb.get? 44 = none) (h37 : hb.get? 37 = none)
   (hdp : A.depth + 310 < recursionLimit) (hh : A.handled = none) (htD : TabD s.heap) (htI : TabI s.heap)
   (ha : 0 ≤ a) (hba : Builtin.Int.intBits a ≤ 200) (hb0 : 0 < b) (hbb : Builtin.Int.intBits b ≤ 200)
   (hret : ∀ t h' tk' t1 t2, Grow [44, 37] s.heap h' → TabD h' → TabI h' → s.heap.get? t = none → h'.get? t = some (tupObj [.int (a / b) t1, .int (a % b) t2]) → Q (.ref t) { s with heap := h', toks := tk' }) :
    wpAny (model prog0 w) A (call (.ref 56) [.int a t1, .int b t2]) Q E s := by
  revert X; unfold prog0; k_fill; intro X
  obtain ⟨hdl, dp, fr, gd, un⟩ := A
  obtain rfl : hdl = none := hh
  dsimp only at hdp
  obtain ⟨tD, htD1, htD2⟩ := id htD
  obtain ⟨tI, htI1, htI2⟩ := id htI
  have hn : ∀ q ∈ [((44 : Addr), tabObj tD), ((37 : Addr), tabObj tI)], s.heap.get? q.1 = some q.2 ∧ hb.get? q.1 = none := fun q hq => by
    rcases List.mem_cons.mp hq with rfl | hq
    · exact ⟨htD1, h44⟩
    · rw [List.mem_singleton.mp hq]; exact ⟨htI1, h37⟩
  k_dflt ( refine' wpAny_call (enterX (by assumption) (by assumption) (by assumption) (by assumption) (by k_is) (by k_is) (by dsimp only; omega) (by exact BindsTo.of_eq rfl) (by exact locs rfl) ?_ (by decide) (by exact rfl) (by exact rfl) (by exact rfl)))
  intro g L' h' G S l F N X' T' st'
  try dsimp only
  try k_fold
  k_steps
  rename_i h1 F1 N1
  have s1 : s.heap.StaysIn h1 := staysOf G F1 N1 fun q hq => (hn q hq).1
  have bp : 1 ≤ Builtin.Int.intBits b := by
    unfold Builtin.Int.intBits
    rw [if_neg (by simp; omega)]; omega
  have n44 : 44 ≠ L' := (N1 _ (.head _)).2.1
  have n37 : 37 ≠ L' := (N1 _ (.tail _ (.head _))).2.1
  have g44 : g.get? 44 = none := (N1 _ (.head _)).2.2
  have g37 : g.get? 37 = none := (N1 _ (.tail _ (.head _))).2.2
  refine i2d X T (fun b o e => F1.keep b o (st' b o e)) h37 (by simp only [depth_deeper]; omega) (htI.stays s1) ha hba bp hbb ?_
  intro dl vs ep h2 tk2 G2 tI2 fdl edl hi
  have tD2 := tabD_grow (htD.stays s1) (htI.stays s1) G2
  have F2 := frGrow F1 G2 (fun a ha => by rw [List.mem_singleton.mp ha]; exact ⟨g37, n37⟩)
  obtain ⟨tI', ex, eI', Nx, hx1, hx2⟩ := tabExtra tI2 F2
  have gdl : g.get? dl = none := by
    cases q : g.get? dl with
    | none => rfl
    | some o => rw [F1.keep _ _ q] at fdl; cases fdl
  have ndl : dl ≠ L' := fun q => by
    obtain ⟨o, _, _, e, _⟩ := F1.ns
    rw [q, e] at fdl; cases fdl
  have N2 : News g L' h2 ((dl, listOf vs.toArray ep) :: (44, tabObj tD) :: (37, tabObj tI') :: ex) :=
    newsOne (newsOne (newsOne Nx eI' n37 g37) (G2 _ _ (N1.get (.head _)) (nin1 (by decide))) n44 g44) edl ndl gdl
  have d44 : @Ne Nat dl 44 := fun q => by
    rw [q, N1.get (.head _)] at fdl; cases fdl
  have d37 : @Ne Nat dl 37 := fun q => by
    rw [q, N1.get (.tail _ (.head _))] at fdl; cases fdl
  have hD : ∀ h', (∀ b o, g.get? b = some o → h'.get? b = some o) → h'.get? 44 = some (tabObj tD) → TabD h' := fun h' kp e => by
    refine ⟨tD, e, ?_⟩
    rcases htD2 with rfl | ⟨c, rfl, hc⟩
    · exact .inl rfl
    · refine .inr ⟨c, rfl, ?_⟩
      have hc' := recGrow hc G (nin2 (recNot hc htD1 (.inr ⟨c, rfl, hc⟩)) (recNot hc htI1 htI2))
      exact hc'.keeps kp
  clear F1 N1
  generalize hn0 : Builtin.Int.intBits b = n at *
  generalize hds : digs (2 ^ n) a (nDigs (Builtin.Int.intBits a) n) = ds at *
  k_steps
  rename_i h3 _ _ qd h4 l4 h5 I h6 F6 N6 l6
  have hx3 : ∀ q ∈ ex, q.1 ≠ qd := fun q hq => Nat.ne_of_lt (ktn_ltOf l4.2.2.2 q hq)
  have hx4 : ∀ q ∈ ex, q.1 ≠ I := fun q hq => Nat.ne_of_lt (ktn_ltOf l6.2.2.2.2 q hq)
  have offI : OffI I (revObj dl ((vs.length : Int) - 1)) ((qd, listOf #[] 0) :: (dl, listOf vs.toArray ep) :: (44, tabObj tD) :: (37, tabObj tI') :: ex) :=
    ⟨.inl (neN (by dsimp only; omega)), .inl (neN (by dsimp only; omega)), .inl (neN (by dsimp only; omega)), .inl (neN (by dsimp only; omega)), offI_of hx4⟩
  refine iter_revUnr (lo := listOf vs.toArray ep) (vs := vs) (n := ep) rfl F6 N6 offI (.tail _ (.head _)) rfl rfl ?_
  have dsb : ∀ d ∈ ds, 0 ≤ d ∧ d < 2 ^ n := fun d h => digs_bounds (two_pow_pos n) _ _ d (hds ▸ h)
  have hpl : ∀ y : Int, Builtin.divisionGoesByPylong y b = false := fun y => PyProof.noPylong_of_log2 (by
    have := hn0 ▸ hbb
    unfold Builtin.Int.intBits at this
    rw [if_neg (by simp; omega)] at this
    omega)
  have b1 : b < 2 ^ n := lt_of_bits (Int.le_of_lt hb0) (Nat.le_of_eq hn0)
  refine revInd (DivInv ds vs ep n b qd dl tD tI' ex) ?done ?step _ _ _ ?init
  case init =>
    exact ⟨[], ds.reverse, [], [], 0, 0, _, _, _, rfl, IntsAre.reverse hi, rfl, rfl, rfl, rfl, rfl, IntsAre.nil, rfl, fun _ h => (nomatch h), Int.le_refl _, hb0, by simp [dval]⟩
  case step =>
    rintro v r m nw ⟨ps, rs, qz, qvs, e, rr, tr, tn, tb, hsp, hir, mn, mb', mr, mq, rfl, hiq, hql, hqb, r0, r1, hv⟩ it h7 tk7 hit F7 N7
    obtain ⟨d, rs', td, rfl, rfl, hir'⟩ : ∃ d rs' td, rs = d :: rs' ∧ v = .int d td ∧ IntsAre r rs' := by
      cases hir with
      | cons n t h => exact ⟨_, _, _, rfl, rfl, h⟩
    have hd := dsb d (List.mem_reverse.mp (hsp ▸ List.mem_append_right _ (.head _)))
    k_steps
    · rename_i x0 hx0
      have hxe : x0 + d = rr * 2 ^ n + d := by rw [hx0]; rfl
      have x1 : rr * 2 ^ n + 2 ^ n ≤ b * 2 ^ n := by
        have := Int.mul_le_mul_of_nonneg_right (show rr + 1 ≤ b by omega) (Int.le_of_lt (two_pow_pos n))
        rw [Int.add_mul, Int.one_mul] at this; exact this
      have x2 : (0 : Int) ≤ rr * 2 ^ n := Int.mul_nonneg r0 (Int.le_of_lt (two_pow_pos n))
      have x3 : b * 2 ^ n < 2 ^ (n + n) := by
        rw [Int.pow_add]; exact Int.mul_lt_mul_of_pos_right b1 (two_pow_pos n)
      have xb : Builtin.Int.intBits (x0 + d) ≤ n + n := bits_of_lt (by omega) (by omega)
      refine div2n1n X T (fun b o e => F7.keep b o (st' b o e)) (by simp only [depth_deeper]; omega) hb0 (hpl _) (by omega) ?_
      intro t h8 tk8 u1 u2 ft st8 et
      have gt : g.get? t = none := by
        cases q : g.get? t with
        | none => rfl
        | some o => rw [F7.keep _ _ q] at ft; cases ft
      have nt : t ≠ L' := fun q => by
        obtain ⟨o, _, _, e, _⟩ := F7.ns
        rw [q] at ft; exact absurd (e.symm.trans ft) (by simp)
      have tq : @Ne Nat t qd := fun q => by
        have := N7.get (.tail _ (.head _)); rw [← q] at this; exact absurd (this.symm.trans ft) (by simp)
      have F8 := frStays F7 st8
      have N8 := newsOne (newsStays N7 st8) et nt gt
      clear F7 N7
      k_steps
      rename_i F9 N9 _ _
      have hql2 : qz.length ≤ 200 := by
        have h1 : ds.length ≤ 200 := by rw [← hds, digs_length]; exact Nat.le_trans (nDigs_le bp) hba
        have h2 := congrArg List.length hsp
        rw [List.length_reverse, List.length_append] at h2
        omega
      refine append_K F9 N9 (.tail tq (.tail (neN (by dsimp only; omega)) (.head (List.forall_mem_cons.mpr ⟨neN (by dsimp only; omega), List.forall_mem_cons.mpr ⟨neN (by dsimp only; omega), List.forall_mem_cons.mpr ⟨neN (by dsimp only; omega), hx3⟩⟩⟩)))) ?_ (by rw [List.size_toArray, hiq.length]; exact Nat.le_trans hql2 (by decide))
      intro h10 F10 N10
      rw [List.push_toArray] at N10
      clear F9 N9
      k_steps
      have eq1 : (x0 + d).fdiv b = (x0 + d) / b := Int.fdiv_eq_ediv_of_nonneg _ (Int.le_of_lt hb0)
      have eq2 : (x0 + d).fmod b = (x0 + d) % b := Int.fmod_eq_emod_of_nonneg _ (Int.le_of_lt hb0)
      have eqd := Int.emod_add_mul_ediv (x0 + d) b
      have m0 := Int.emod_nonneg (x0 + d) (show b ≠ 0 by omega)
      have m1 := Int.emod_lt_of_pos (x0 + d) hb0
      have q0 : 0 ≤ (x0 + d) / b := Int.ediv_nonneg (by omega) (Int.le_of_lt hb0)
      have q1 : (x0 + d) / b < 2 ^ n := Int.ediv_lt_of_lt_mul hb0 (by rw [Int.mul_comm]; omega)
      rw [← eq1] at eqd q0 q1
      rw [← eq2] at eqd m0 m1
      refine UnrEnd.intro F10 N10 ((qd, listOf (List.toArray (qvs ++ [.int ((x0 + d).fdiv b) u1])) (e + 1)) :: (dl, listOf vs.toArray ep) :: (44, tabObj tD) :: (37, tabObj tI') :: ex) (fun p hp => .tail _ hp)
        (List.forall_mem_cons.mpr ⟨neN (by dsimp only; omega), List.forall_mem_cons.mpr ⟨neN (by dsimp only; omega), List.forall_mem_cons.mpr ⟨neN (by dsimp only; omega), List.forall_mem_cons.mpr ⟨neN (by dsimp only; omega), hx4⟩⟩⟩⟩)
        ⟨.tail _ (.head _), ps ++ [d], rs', qz ++ [(x0 + d).fdiv b], qvs ++ [.int ((x0 + d).fdiv b) u1], e + 1, (x0 + d).fmod b, u2, tn, tb, by rw [hsp]; simp, hir', mn, mb', rfl, mq, rfl, IntsAre.append hiq (.cons _ _ .nil), by simp [hql], ?_, m0, m1, ?_⟩
      · intro q hq
        rcases List.mem_append.mp hq with hq | hq
        · exact hqb q hq
        · rw [List.mem_singleton.mp hq]
          exact ⟨q0, Int.lt_of_lt_of_le q1 (two_pow_le hbb)⟩
      · rw [List.reverse_append, List.reverse_append]
        simp only [List.reverse_cons, List.reverse_nil, List.nil_append, List.cons_append, dval]
        rw [hv]
        rw [Int.add_mul, Int.mul_add, Int.mul_comm ((x0 + d).fdiv b) b, Int.mul_assoc, Int.mul_comm (2 ^ n) rr]
        omega
    · exact ⟨by omega⟩
    · refine ⟨?_⟩
      have : Builtin.Int.intBits rr ≤ n := bits_of_lt r0 (by omega)
      omega
  case done =>
    rintro m nw ⟨ps, rs, qz, qvs, e, rr, tr, tn, tb, hsp, hir, mn, mb', mr, mq, rfl, hiq, hql, hqb, r0, r1, hv⟩ h7 tk7 F7 N7
    cases hir
    k_steps
    refine kl_reverse (l := qvs.reverse) F7 N7 (by simp) (.head (List.forall_mem_cons.mpr ⟨neN (by dsimp only; omega), List.forall_mem_cons.mpr ⟨neN (by dsimp only; omega), List.forall_mem_cons.mpr ⟨neN (by dsimp only; omega), hx3⟩⟩⟩)) ?z ?_
    case z =>
      have h2 := congrArg List.length hsp
      rw [List.length_reverse, List.length_append, List.length_nil] at h2
      have h1 : ds.length ≤ 200 := by rw [← hds, digs_length]; exact Nat.le_trans (nDigs_le bp) hba
      have h3 := hiq.length
      show qvs.length ≤ sizeLine
      exact Nat.le_trans (by omega : qvs.length ≤ 200) (by decide)
    intro h8 F8 N8
    clear F7 N7
    k_steps
    have hiq' : IntsAre qvs.reverse qz.reverse := IntsAre.reverse hiq
    have tD8 := hD h8 F8.keep (N8.get (by k_mem))
    have tI8 := hx2 h8 F8.keep (fun q hq => N8 q (.tail _ (.tail _ (.tail _ (.tail _ hq))))) (N8.get (.tail _ (.tail _ (.tail _ (.head _)))))
    refine d2i X T (fun b o e => F8.keep b o (st' b o e)) h44 (by simp only [depth_deeper]; omega) (News.isList N8 (.head _)) hiq' tD8 hbb ?len ?bnd ?_
    case len =>
      have h2 := congrArg List.length hsp
      rw [List.length_reverse, List.length_append, List.length_nil] at h2
      have h1 : ds.length ≤ 200 := by rw [← hds, digs_length]; exact Nat.le_trans (nDigs_le bp) hba
      rw [List.length_reverse]; omega
    case bnd => exact fun q hq => hqb q (List.mem_reverse.mp hq)
    intro t9 h9 tk9 G9 tD9
    have F9 := frGrow F8 G9 (fun a ha => by rw [List.mem_singleton.mp ha]; exact ⟨g44, n44⟩)
    have tI9 := tabI_grow tD8 tI8 G9
    obtain ⟨tD', exD, eD', NxD, _, hxD2⟩ := tabExtra tD9 F9
    obtain ⟨tI'', exI, eI'', NxI, _, hxI2⟩ := tabExtra tI9 F9
    have N9 : News g L' h9 ((44, tabObj tD') :: (37, tabObj tI'') :: (exD ++ exI)) :=
      newsOne (newsOne (fun q hq => (List.mem_append.mp hq).elim (NxD q) (NxI q)) eI'' n37 g37) eD' n44 g44
    clear F8 N8
    k_steps
    rename_i h10 D h11 F11 N11 l11
    have eds : ps.reverse = ds := by
      rw [List.append_nil] at hsp
      rw [← hsp, List.reverse_reverse]
    have ea : a = dval (2 ^ n) qz.reverse * b + rr := by
      rw [← hv, eds, ← hds]
      refine (digs_val (two_pow_pos n) _ a ha ?_).symm
      rw [← Int.pow_mul]
      exact lt_of_bits ha (nDigs_ge bp)
    have e1 : a / b = dval (2 ^ n) qz.reverse := by
      rw [ea, Int.add_comm, Int.add_mul_ediv_right _ _ (by omega), Int.ediv_eq_zero_of_lt r0 r1, Int.zero_add]
    have e2 : a % b = rr := by
      rw [ea, Int.add_comm, Int.add_mul_emod_self_right, Int.emod_eq_of_lt r0 r1]
    refine hret D h11 _ t9 tr (fun b o e n => F11.keep b o (G b o e n)) (hxD2 h11 F11.keep (fun q hq => N11 q (.tail _ (.tail _ (.tail _ (List.mem_append_left _ hq))))) (N11.get (.tail _ (.head _)))) (hxI2 h11 F11.keep (fun q hq => N11 q (.tail _ (.tail _ (.tail _ (List.mem_append_right _ hq))))) (N11.get (.tail _ (.tail _ (.head _))))) (G.fresh (N11.fresh (.head _)) (nin2 (by dsimp only; omega) (by dsimp only; omega))) ?_
    rw [e1, e2]
    exact N11.get (.head _)
end
end Mine
end
theorem Mine.freshC5 : True := by
  w_top off
  trivial
section -- C5
open PySem PySem.W PyProof.Rows PySem.Spec PySem.Calls
namespace Mine
section
local macro_rules | `(tactic| walk_at "execs cons") => `(tactic| (k_here; (try dsimp only); (try k_fold); (try k_gentoks); refine wpAny_execs_cons ?_; k_fold))
local macro_rules | `(tactic| k_all) => `(tactic| assumption)
local macro_rules | `(tactic| walk_at "exec While Compare cons nil") => `(tactic| (refine whlHid ?_))
local macro_rules | `(tactic| walk_at "call type:range") => `(tactic| ((with_reducible show wpAny _ _ (call _ [Value.int _ _]) _ _ _); k_dflt (refine range1_rows (by k_asm) (by k_asm) ?_); intro _ _ _ _ _ _ _ _ _))
local macro_rules | `(tactic| walk_at "pyIter ref") => `(tactic| (refine Hid.out ?_))
local macro_rules | `(tactic| walk_at "subscriptTail Subscript Name UnaryOp Name ref int") => `(tactic| (k_dflt (refine item_anyK (by is_list) (by assumption) (by omega) (by omega) (by omega) ?_); intro _))
local macro_rules | `(tactic| walk_at "subscriptTail Name UnaryOp ref int") => `(tactic| ((with_reducible show wpAny _ _ (subscriptTail _ _ (Value.ref _) (Value.int (-1) _)) _ _ _); k_dflt (refine subBack1 (by is_list) ?_)))
local macro_rules | `(tactic| walk_at "subscriptTail Name UnaryOp ref int") => `(tactic| ((with_reducible show wpAny _ _ (subscriptTail _ _ (Value.ref _) (Value.int (-2) _)) _ _ _); k_dflt (refine subBack2 (by is_list) ?_)))
local macro_rules | `(tactic| walk_at "binaryOp Mult int int") => `(tactic| (refine mulH ?_ ?_; rotate_left 1; intro _ _))
/-- the rows that the addresses refs hold -/
noncomputable def RowsAt (h : Heap) (refs : List Addr) (rows : List (List Int)) : Prop :=
  refs.length = rows.length ∧ ∀ (j : Nat) (ra : Addr) (row : List Int), refs[j]? = some ra → rows[j]? = some row → ∃ vs e, h.get? ra = some (listOf (List.toArray vs) e) ∧ IntsAre vs row
/-- its numbers are 1 or more, and of at most 2 ^ k bits -/
noncomputable def Bd (k : Nat) (l : List Int) : Prop := ∀ x ∈ l, 1 ≤ x ∧ x < 2 ^ (2 ^ k)
inductive RunInv (g : Heap) (L R rg : Addr) (og : Obj) (ring : List Int) (s0 : Shared) (k : Nat) (s : Shared) : Prop
  | intro (h : Heap) (tk : Nat) (m : Mp) (rf : List Addr) (pre : List (List Int)) (prev cur : List Int) (p c : Addr) (pvs cvs : List Value) (ep ec e : Nat) (tD tI : Array Value) (ro : List (Addr × Obj)) (ts : Tok)
    (c1 : s = { s0 with heap := h, toks := tk })
    (c2 : Fr g L h m)
    (c3 : m (Str.ofString "size") = some (.int (ring.length : Nat) ts))
    (c4 : m (Str.ofString "rows") = some (.ref R))
    (c5 : News g L h ((R, listOf (List.toArray (rf.map Value.ref ++ [.ref p, .ref c])) e) :: (p, listOf (List.toArray pvs) ep) :: (c, listOf (List.toArray cvs) ec) :: (44, tabObj tD) :: (37, tabObj tI) :: ro))
    (c6 : IntsAre pvs prev)
    (c7 : IntsAre cvs cur)
    (c8 : prev.length = ring.length)
    (c9 : cur.length = ring.length)
    (c10 : Bd 7 prev)
    (c11 : Bd (pre.length + 3) cur)
    (c12 : pre.length + 3 + k = ring.length)
    (c13 : runOf ring = runL ring.length k pre prev cur)
    (c14 : (@Ne Nat p R ∧ @Ne Nat c R ∧ @Ne Nat 44 R ∧ @Ne Nat 37 R ∧ @Ne Nat p 44 ∧ @Ne Nat p 37 ∧ @Ne Nat c 44 ∧ @Ne Nat c 37))
    (c15 : (∀ q ∈ ro, q.1 ≠ R))
    (c16 : (∀ q ∈ ro, q.1 ∉ [44, 37]))
    (c17 : (∀ h', (∀ b o, g.get? b = some o → h'.get? b = some o) → News g L h' ((44, tabObj tD) :: (37, tabObj tI) :: ro) → TabD h' ∧ TabI h'))
    (c18 : (∀ h', News g L h' ro → RowsAt h' rf pre))
    (c19 : (∀ h', News g L h' ((p, listOf (List.toArray pvs) ep) :: (c, listOf (List.toArray cvs) ec) :: ro) → h'.get? rg = some og))
    (c20 : (∀ ra ∈ rf, ∃ o, (ra, o) ∈ ro)) : RunInv g L R rg og ring s0 k s
theorem Bd.at {k : Nat} {l : List Int} (h : Bd k l) {i : Nat} (hi : i < l.length) : 1 ≤ l.getD i 0 ∧ l.getD i 0 < 2 ^ (2 ^ k) := by
  rw [List.getD, List.getElem?_eq_getElem hi]
  exact h _ (List.getElem_mem hi)
theorem sq_bits {x y : Int} {k : Nat} (x1 : 1 ≤ x) (x2 : x < 2 ^ (2 ^ k)) (y1 : 1 ≤ y) (y2 : y < 2 ^ (2 ^ k)) : 1 ≤ x * y ∧ x * y < 2 ^ (2 ^ (k + 1)) := by
  refine ⟨?_, ?_⟩
  · have := Int.mul_le_mul x1 y1 (by omega) (by omega)
    omega
  · rw [Nat.pow_succ, Nat.mul_two, Int.pow_add]
    exact Int.lt_of_lt_of_le (Int.mul_lt_mul_of_pos_left y2 (by omega)) (Int.mul_le_mul_of_nonneg_right (Int.le_of_lt x2) (Int.le_of_lt (two_pow_pos _)))
theorem getL_of {g h : Heap} {L a : Addr} {m : Mp} (F : Fr g L h m) (e : h.get? a = none) : g.get? a = none ∧ a ≠ L := by
  refine ⟨?_, fun q => ?_⟩
  · cases q : g.get? a with
    | none => rfl
    | some o => rw [F.keep _ _ q] at e; cases e
  · obtain ⟨o, _, _, e', _⟩ := F.ns
    rw [q] at e; rw [e] at e'; cases e'
/-- no code's record -/
noncomputable def NotCode (o : Obj) : Prop := ∀ vs : Array Value, o.data = .fields vs → ∀ r k, vs[1]? ≠ some (.str r k)
theorem notCode_list (its : Array Value) (n : Nat) : NotCode (listOf its n) := fun _ h => by cases h
theorem notCode_it (a b : Int) : NotCode (itR a b) := fun vs h r k e => by
  cases h; simp [rawInt] at e
theorem notCode_tab {P : Addr} {line col : Nat} {q : Str} {h : Heap} {t : Array Value} (ht : Tab P line col q h) (e : h.get? P = some (tabObj t)) : NotCode (tabObj t) := fun vs hv r k ev => by
  obtain ⟨t', e', h'⟩ := ht
  rw [e] at e'; cases e'; cases hv
  rcases h' with rfl | ⟨c, rfl, _⟩
  · simp at ev
  · simp [rawInt] at ev
theorem offAll {g h : Heap} {L a : Addr} {o : Obj} {exD exI ro : List (Addr × Obj)} (hD : ∀ q ∈ exD, ∃ vs r k, q.2.data = .fields vs ∧ vs[1]? = some (Value.str r k)) (hI : ∀ q ∈ exI, ∃ vs r k, q.2.data = .fields vs ∧ vs[1]? = some (Value.str r k))
    (ND : News g L h exD) (NI : News g L h exI) (ha : h.get? a = some o) (hn : NotCode o) (hro : ∀ q ∈ ro, q.1 ≠ a) : ∀ q ∈ exD ++ (exI ++ ro), q.1 ≠ a := by
  intro q hq e
  have key : ∀ ex : List (Addr × Obj), (∀ q ∈ ex, ∃ vs r k, q.2.data = .fields vs ∧ vs[1]? = some (Value.str r k)) → News g L h ex → q ∈ ex → False := fun ex hx N hq => by
    obtain ⟨vs, r, k, h1, h2⟩ := hx q hq
    have := (N q hq).1
    rw [e, ha] at this; cases this
    exact hn vs h1 r k h2
  rcases List.mem_append.mp hq with hq | hq
  · exact key _ hD ND hq
  · rcases List.mem_append.mp hq with hq | hq
    · exact key _ hI NI hq
    · exact hro q hq e
theorem rowsAt_two {h : Heap} {p c : Addr} {rf : List Addr} {pre : List (List Int)} {prev cur : List Int} {pvs cvs : List Value} {ep ec : Nat} (H : RowsAt h rf pre) (ep' : h.get? p = some (listOf (List.toArray pvs) ep)) (ec' : h.get? c = some (listOf (List.toArray cvs) ec)) (ip : IntsAre pvs prev) (ic : IntsAre cvs cur) : RowsAt h (rf ++ [p, c]) (pre ++ [prev, cur]) := by
  refine ⟨by simp [H.1], fun j ra row h1 h2 => ?_⟩
  by_cases hj : j < rf.length
  · rw [List.getElem?_append_left hj] at h1
    rw [List.getElem?_append_left (H.1 ▸ hj)] at h2
    exact H.2 j ra row h1 h2
  · rw [List.getElem?_append_right (by omega)] at h1
    rw [List.getElem?_append_right (by have := H.1; omega)] at h2
    rw [← H.1] at h2
    generalize j - rf.length = i at h1 h2
    match i with
    | 0 => cases h1; cases h2; exact ⟨_, _, ep', ip⟩
    | 1 => cases h1; cases h2; exact ⟨_, _, ec', ic⟩
    | i + 2 => simp at h1
theorem rowsAt_one {h : Heap} {p : Addr} {rf : List Addr} {pre : List (List Int)} {prev : List Int} {pvs : List Value} {ep : Nat} (H : RowsAt h rf pre) (ep' : h.get? p = some (listOf (List.toArray pvs) ep)) (ip : IntsAre pvs prev) : RowsAt h (rf ++ [p]) (pre ++ [prev]) := by
  refine ⟨by simp [H.1], fun j ra row h1 h2 => ?_⟩
  by_cases hj : j < rf.length
  · rw [List.getElem?_append_left hj] at h1
    rw [List.getElem?_append_left (H.1 ▸ hj)] at h2
    exact H.2 j ra row h1 h2
  · rw [List.getElem?_append_right (by omega)] at h1
    rw [List.getElem?_append_right (by have := H.1; omega)] at h2
    rw [← H.1] at h2
    generalize j - rf.length = i at h1 h2
    match i with
    | 0 => cases h1; cases h2; exact ⟨_, _, ep', ip⟩
    | i + 1 => simp at h1
theorem rowL_step {n k i : Nat} {prev cur acc : List Int} (hk : n - i = k + 1) : rowL n prev cur (n - i) i acc = if rowX n cur i % rowY n prev i ≠ 0 then .bad else if rowX n cur i / rowY n prev i = 0 then .zero else rowL n prev cur k (i + 1) (acc ++ [rowX n cur i / rowY n prev i]) := by
  rw [hk]; rfl
theorem runL_succ {n k : Nat} {pre : List (List Int)} {prev cur : List Int} : runL n (k + 1) pre prev cur = match rowL n prev cur n 0 [] with | .bad => none | .zero => some (pre ++ [prev, cur]) | .row l => runL n k (pre ++ [prev]) cur l := rfl
inductive RowInv (g : Heap) (L' R rg W0 I : Addr) (vs : List Value) (er : Nat) (ring : List Int) (rf : List Addr) (pre : List (List Int)) (prev cur : List Int) (pp c : Addr) (pvs cvs : List Value) (ep ec e : Nat) (i : Nat) (m : Mp) (nw : List (Addr × Obj)) : Prop
  | intro (acc : List Int) (avs : List Value) (ea : Nat) (tD tI : Array Value) (ro : List (Addr × Obj)) (ts : Tok)
    (c1 : m (Str.ofString "size") = some (.int (ring.length : Nat) ts))
    (c2 : m (Str.ofString "rows") = some (.ref R))
    (c3 : m (Str.ofString "row") = some (.ref W0))
    (c4 : nw = (W0, listOf (List.toArray avs) ea) :: (R, listOf (List.toArray (rf.map Value.ref ++ [.ref pp, .ref c])) e) :: (pp, listOf (List.toArray pvs) ep) :: (c, listOf (List.toArray cvs) ec) :: (44, tabObj tD) :: (37, tabObj tI) :: ro)
    (c5 : IntsAre avs acc)
    (c6 : acc.length = i)
    (c7 : Bd (pre.length + 4) acc)
    (c8 : rowL ring.length prev cur ring.length 0 [] = rowL ring.length prev cur (ring.length - i) i acc)
    (c9 : (∀ q ∈ ro, q.1 ≠ R))
    (c10 : (∀ q ∈ ro, q.1 ∉ [44, 37]))
    (c11 : (∀ q ∈ ro, q.1 ≠ W0))
    (c12 : (∀ q ∈ ro, q.1 ≠ I))
    (c13 : (∀ h', (∀ b o, g.get? b = some o → h'.get? b = some o) → News g L' h' ((44, tabObj tD) :: (37, tabObj tI) :: ro) → TabD h' ∧ TabI h'))
    (c14 : (∀ h', News g L' h' ro → RowsAt h' rf pre))
    (c15 : (∀ h', News g L' h' ((pp, listOf (List.toArray pvs) ep) :: (c, listOf (List.toArray cvs) ec) :: ro) → h'.get? rg = some (listOf vs.toArray er)))
    (c16 : (∀ ra ∈ rf, ∃ o, (ra, o) ∈ ro)) : RowInv g L' R rg W0 I vs er ring rf pre prev cur pp c pvs cvs ep ec e i m nw
set_option maxRecDepth 100000 in
set_option maxHeartbeats 8000000 in
theorem lawRun {w : World} {hb : Heap} {p : Program} {loose : List Str} {mean : ExcName → Option Value} {mg mb : Str → Option Value}
   {A : Around} {s : Shared} {Q E : Value → Shared → Prop} {rg : Addr} {vs : List Value} {er : Nat} {ring : List Int}
   (X : (hd.heap_39 w.params).In hb) (T : Top p loose mean mg mb hb) (st : hb.StaysIn s.heap) (h44 : hb.get? 44 = none) (h37 : hb.get? 37 = none) (hrg : hb.get? rg = none)
   (hdp : A.depth + 320 < recursionLimit) (hh : A.handled = none) (htD : TabD s.heap) (htI : TabI s.heap)
   (hl : s.heap.get? rg = some (listOf vs.toArray er)) (hi : IntsAre vs ring) (n4 : 4 ≤ ring.length) (n7 : ring.length ≤ 7) (hr : ∀ e ∈ ring, 1 ≤ e ∧ e < 256)
   (hret : ∀ r h' tk', Grow [44, 37] s.heap h' → TabD h' → TabI h' → (match runOf ring with | none => r = .none | some rows => ∃ a refs e, r = .ref a ∧ h'.get? a = some (listOf (List.toArray (refs.map Value.ref)) e) ∧ RowsAt h' refs rows ∧ s.heap.get? a = none ∧ ∀ ra ∈ refs, ra = rg ∨ s.heap.get? ra = none) → Q r { s with heap := h', toks := tk' }) :
    wpAny (model prog0 w) A (call (.ref 112) [.ref rg]) Q E s := by
  revert X; unfold prog0; k_fill; intro X
  obtain ⟨hdl, dp, fr, gd, un⟩ := A
  obtain rfl : hdl = none := hh
  dsimp only at hdp
  obtain ⟨tD, htD1, htD2⟩ := id htD
  obtain ⟨tI, htI1, htI2⟩ := id htI
  have hn : ∀ q ∈ [((44 : Addr), tabObj tD), ((37 : Addr), tabObj tI), (rg, listOf vs.toArray er)], s.heap.get? q.1 = some q.2 ∧ hb.get? q.1 = none := fun q hq => by
    rcases List.mem_cons.mp hq with rfl | hq
    · exact ⟨htD1, h44⟩
    · rcases List.mem_cons.mp hq with rfl | hq
      · exact ⟨htI1, h37⟩
      · rw [List.mem_singleton.mp hq]; exact ⟨hl, hrg⟩
  have r44 : @Ne Nat rg 44 := fun q => by rw [q, htD1] at hl; cases hl
  have r37 : @Ne Nat rg 37 := fun q => by rw [q, htI1] at hl; cases hl
  k_dflt ( refine' wpAny_call (enterX (by assumption) (by assumption) (by assumption) (by assumption) (by k_is) (by k_is) (by dsimp only; omega) (by exact BindsTo.of_eq rfl) (by exact locs rfl) ?_ (by decide) (by exact rfl) (by exact rfl) (by exact rfl)))
  intro g L' h' G S l F N X' T' st'
  try dsimp only
  try k_fold
  k_steps
  rename_i h0 _ _ l0 h1 l01 D h2 i1 n1 s1 e1 e2 e3 l02 R h3 l03 h4 F4 N4
  have growS : ∀ {h' m'}, Fr g L' h' m' → h'.get? rg = some (listOf vs.toArray er) → Grow [44, 37] s.heap h' := fun F' er' b o e n => by
    by_cases hb : b = rg
    · subst hb; rw [hl] at e; cases e; exact er'
    · exact F'.keep b o (G b o e fun q => by
        rcases List.mem_cons.mp q with q | q
        · exact n (q ▸ .head _)
        · rcases List.mem_cons.mp q with q | q
          · exact n (q ▸ .tail _ (.head _))
          · exact hb (List.mem_singleton.mp q))
  have fresh : ∀ {h : Heap} {nw : List (Addr × Obj)} {oR oP oC : Obj} {pp c : Addr} {rf : List Addr} {ro : List (Addr × Obj)}, News g L' h nw → (R, oR) ∈ nw → (pp, oP) ∈ nw → (c, oC) ∈ nw → (∀ q ∈ ro, q ∈ nw) → (∀ ra ∈ rf, ∃ o, (ra, o) ∈ ro) → (∀ q ∈ ro, q.1 ∉ [44, 37]) →
      @Ne Nat 44 R → @Ne Nat 37 R → @Ne Nat pp 44 → @Ne Nat pp 37 → @Ne Nat c 44 → @Ne Nat c 37 → s.heap.get? R = none ∧ ∀ ra ∈ rf ++ [pp, c], ra = rg ∨ s.heap.get? ra = none := by
    intro h nw oR oP oC pp c rf ro N mR mP mC sub hrf ho2 q3 q4 q5 q6 q7 q8
    have frs : ∀ x : Addr, g.get? x = none → @Ne Nat x 44 → @Ne Nat x 37 → x = rg ∨ s.heap.get? x = none := fun x e n1 n2 => by
      by_cases hx : x = rg
      · exact .inl hx
      · refine .inr (G.fresh e fun q => ?_)
        rcases List.mem_cons.mp q with q | q
        · exact n1 q
        rcases List.mem_cons.mp q with q | q
        · exact n2 q
        exact hx (List.mem_singleton.mp q)
    refine ⟨(frs R (N.fresh mR) (Ne.symm q3) (Ne.symm q4)).resolve_left (neN (by omega)), fun ra hra => ?_⟩
    rcases List.mem_append.mp hra with hra | hra
    · obtain ⟨o, ho⟩ := hrf ra hra
      have n := ho2 _ ho
      exact frs ra (N.fresh (sub _ ho)) (fun e => n (by rw [show ra = 44 from e]; exact .head _)) (fun e => n (by rw [show ra = 37 from e]; exact .tail _ (.head _)))
    rcases List.mem_cons.mp hra with rfl | hra
    · exact frs _ (N.fresh mP) q5 q6
    rw [List.mem_singleton.mp hra]
    exact frs _ (N.fresh mC) q7 q8
  refine ⟨?_⟩
  refine whlInd (by k_dflt passes_own) (RunInv g L' R rg (listOf vs.toArray er) ring s) ?turn (ring.length - 3) _ ?init
  case init =>
    have ep : (List.replicate ((ring.length : Nat) : Int).toNat [(1 : Int)]).flatten = List.replicate ring.length 1 := by simp
    rw [ep] at i1
    have hTab : ∀ h', (∀ b o, g.get? b = some o → h'.get? b = some o) → News g L' h' [(44, tabObj tD), (37, tabObj tI)] → TabD h' ∧ TabI h' := fun h' kp N' => by
      have nrg : ∀ {c q}, s.heap.CodeRec (.ref c) q → c ≠ rg := fun hc e => by
        obtain ⟨_, oc, vv, _, e1, e2, e3, _⟩ := hc
        cases e1
        rw [e, hl] at e2; cases e2; cases e3
      have nin : ∀ {c q}, s.heap.CodeRec (.ref c) q → c ∉ adrs [((44 : Addr), tabObj tD), ((37 : Addr), tabObj tI), (rg, listOf vs.toArray er)] := fun hc q => by
        rcases List.mem_cons.mp q with q | q
        · exact recNot hc htD1 htD2 q
        rcases List.mem_cons.mp q with q | q
        · exact recNot hc htI1 htI2 q
        exact nrg hc (List.mem_singleton.mp q)
      refine ⟨⟨tD, N'.get (.head _), htD2.imp id fun ⟨c, e, hc⟩ => ⟨c, e, (recGrow hc G (nin hc)).keeps kp⟩⟩, ⟨tI, N'.get (.tail _ (.head _)), htI2.imp id fun ⟨c, e, hc⟩ => ⟨c, e, (recGrow hc G (nin hc)).keeps kp⟩⟩⟩
    refine ⟨h4, _, _, [], [], List.replicate ring.length 1, ring, D, rg, _, vs, 0, er, 0, tD, tI, [], _, rfl, F4, rfl, rfl, fun q hq => N4 q ?mem, i1, hi, by simp, rfl, ?b1, ?b2, by simp; omega, rfl, ⟨by omega, by omega, by omega, by omega, by omega, by omega, r44, r37⟩, fun _ h => (nomatch h), fun _ h => (nomatch h), hTab, fun h' _ => ⟨rfl, fun j ra row h => by simp at h⟩, fun h' N' => N'.get (.tail _ (.head _)), fun _ h => nomatch h⟩
    case mem =>
      revert q
      refine List.forall_mem_cons.mpr ⟨?_, List.forall_mem_cons.mpr ⟨?_, List.forall_mem_cons.mpr ⟨?_, List.forall_mem_cons.mpr ⟨?_, List.forall_mem_cons.mpr ⟨?_, fun q hq => ?_⟩⟩⟩⟩⟩
      · k_mem
      · k_mem
      · k_mem
      · k_mem
      · k_mem
      exact nomatch hq
    case b1 =>
      intro x hx
      rw [(List.mem_replicate.mp hx).2]
      exact ⟨by decide, by decide⟩
    case b2 => exact fun x hx => ⟨(hr x hx).1, Int.lt_of_lt_of_le (hr x hx).2 (by decide)⟩
  case turn =>
    rintro k s1 ⟨h, tk, m, rf, pre, prev, cur, pp, c, pvs, cvs, ep, ec, e, tD, tI, ro, ts, rfl, F, mS, mR, N, hip, hic, lp, lc, bp, bc, hk, hrun, ⟨q1, q2, q3, q4, q5, q6, q7, q8⟩, ho1, ho2, hT, hR, hG, hRf⟩
    have hrf : rf.length = pre.length := (hR h fun q hq => N q (.tail _ (.tail _ (.tail _ (.tail _ (.tail _ hq)))))).1
    have hsz : (List.toArray (rf.map Value.ref ++ [.ref pp, .ref c])).size = pre.length + 2 := by simp [hrf]
    k_steps
    by_cases hk0 : k = 0
    · refine WhlIf.no (decide_eq_false (by omega)) ?_
      k_steps
      subst hk0
      have tabs := hT h F.keep (fun q hq => N q (.tail _ (.tail _ (.tail _ hq))))
      refine hret (.ref R) _ _ (growS F (hG h fun q hq => N q (by
        revert q
        refine List.forall_mem_cons.mpr ⟨?_, List.forall_mem_cons.mpr ⟨?_, fun q hq => ?_⟩⟩
        · k_mem
        · k_mem
        exact .tail _ (.tail _ (.tail _ (.tail _ (.tail _ hq))))))) tabs.1 tabs.2 ?_
      rw [hrun]
      exact ⟨R, rf ++ [pp, c], e, rfl, by rw [List.map_append]; exact N.get (.head _), rowsAt_two (hR h fun q hq => N q (.tail _ (.tail _ (.tail _ (.tail _ (.tail _ hq)))))) (N.get (by k_mem)) (N.get (by k_mem)) hip hic, fresh N (.head _) (by k_mem) (by k_mem) (fun q hq => .tail _ (.tail _ (.tail _ (.tail _ (.tail _ hq))))) hRf ho2 q3 q4 q5 q6 q7 q8⟩
    · refine WhlIf.yes (decide_eq_true (by omega)) ?_
      k_steps
      rename_i W0 h5 l5 h6 F6 N6 h7 tk7 u1 u2 u3 hrr F7 N7 keep7
      refine ⟨?_⟩
      refine iter_rangeUnr (n := ring.length) rfl hrr (range_small _) (range_size _) F7 N7 ?_
      intro I hI
      k_lt hI
      refine rangeInd (RowInv g L' R rg W0 I vs er ring rf pre prev cur pp c pvs cvs ep ec e) ?done ?step _ _ _ _ (Nat.zero_add _) ?init
      case init =>
        exact ⟨[], [], 0, tD, tI, ro, ts, mS, mR, rfl, rfl, IntsAre.nil, rfl, fun _ h => (nomatch h), by rw [Nat.sub_zero], ho1, ho2, fun q hq => Nat.ne_of_lt (ktn_ltOf l5.2.2.2.2.2 q hq), fun q hq => Nat.ne_of_lt (ktn_ltOf hI.2.2.2.2.2.2 q hq), hT, hR, hG, hRf⟩
      case step =>
        rintro i m2 nw hin ⟨acc, avs, ea, tD, tI, ro, ts, mS, mR, mW, rfl, hia, lac, bac, hrow, o1, o2, o3, o4, hT, hR, hG, hRf⟩ ti h8 tk8 F8 N8
        k_steps
        · rename_i kk hkk kk0 kk1 h9 F9 N9 u4 u5 v hv u6
          have ekk : kk.toNat = (i + 1) % ring.length := by
            rw [hkk, show (0 + (i : Int) + 1) = ((i + 1 : Nat) : Int) by omega]; rfl
          have ei : (0 + (i : Int)).toNat = i := by omega
          have hm := Nat.mod_lt (i + 1) (show 0 < ring.length by omega)
          have hX : v - 1 = rowX ring.length cur i := by rw [hv, ekk, ei]; rfl
          have hY : prev.getD kk.toNat 0 = rowY ring.length prev i := by rw [ekk]; rfl
          have c1 := bc.at (show i < cur.length by omega)
          have c2 := bc.at (show (i + 1) % ring.length < cur.length by omega)
          have c3 := bp.at (show (i + 1) % ring.length < prev.length by omega)
          have c4 := sq_bits c1.1 c1.2 c2.1 c2.2
          have x0 : 0 ≤ rowX ring.length cur i := by unfold rowX; omega
          have x1 : rowX ring.length cur i < 2 ^ (2 ^ (pre.length + 3 + 1)) := by unfold rowX; omega
          have x2 : Builtin.Int.intBits (rowX ring.length cur i) ≤ 200 := Nat.le_trans (bits_of_lt x0 x1) (Nat.le_trans (Nat.pow_le_pow_right (by decide) (show pre.length + 3 + 1 ≤ 7 by omega)) (by decide))
          have y0 : 0 < rowY ring.length prev i := by unfold rowY; omega
          have y1 : Builtin.Int.intBits (rowY ring.length prev i) ≤ 200 := Nat.le_trans (bits_of_lt (Int.le_of_lt y0) c3.2) (by decide)
          rw [hX, hY]
          have tabs := hT h9 F9.keep (fun q hq => N9 q (.tail _ (.tail _ (.tail _ (.tail _ (.tail _ hq))))))
          have n44 : 44 ≠ L' := (N9 (44, tabObj tD) (by k_mem)).2.1
          have n37 : 37 ≠ L' := (N9 (37, tabObj tI) (by k_mem)).2.1
          have g44 : g.get? 44 = none := (N9 (44, tabObj tD) (by k_mem)).2.2
          have g37 : g.get? 37 = none := (N9 (37, tabObj tI) (by k_mem)).2.2
          refine divmodPos X T (fun b o e => F9.keep b o (st' b o e)) h44 h37 (by simp only [depth_deeper]; omega) rfl tabs.1 tabs.2 x0 x2 y0 y1 ?_
          intro t h10 tk10 u7 u8 G10 tD10 tI10 ft et
          have F10 := frGrow F9 G10 (fun a ha => by
            rcases List.mem_cons.mp ha with rfl | ha
            · exact ⟨g44, n44⟩
            · rw [List.mem_singleton.mp ha]; exact ⟨g37, n37⟩)
          obtain ⟨tD', exD, eD', NxD, hxD1, hxD2⟩ := tabExtra tD10 F10
          obtain ⟨tI', exI, eI', NxI, hxI1, hxI2⟩ := tabExtra tI10 F10
          have ftg := getL_of F9 ft
          have Nk : News g L' h10 ((I, itR (0 + ((i + 1 : Nat) : Int)) ((ring.length : Int) - ((i + 1 : Nat) : Int))) :: (W0, listOf (List.toArray avs) ea) :: (R, listOf (List.toArray (rf.map Value.ref ++ [.ref pp, .ref c])) e) :: (pp, listOf (List.toArray pvs) ep) :: (c, listOf (List.toArray cvs) ec) :: ro) := by
            refine newsGrow (fun q hq => N9 q ?_) G10 (fun q hq => ?_)
            · revert q
              refine List.forall_mem_cons.mpr ⟨?_, List.forall_mem_cons.mpr ⟨?_, List.forall_mem_cons.mpr ⟨?_, List.forall_mem_cons.mpr ⟨?_, List.forall_mem_cons.mpr ⟨?_, fun q hq => ?_⟩⟩⟩⟩⟩
              · k_mem
              · k_mem
              · k_mem
              · k_mem
              · k_mem
              exact .tail _ (.tail _ (.tail _ (.tail _ (.tail _ (.tail _ (.tail _ hq))))))
            · revert q
              refine List.forall_mem_cons.mpr ⟨?_, List.forall_mem_cons.mpr ⟨?_, List.forall_mem_cons.mpr ⟨?_, List.forall_mem_cons.mpr ⟨?_, List.forall_mem_cons.mpr ⟨?_, fun q hq => ?_⟩⟩⟩⟩⟩
              · exact nin2 (by dsimp only; omega) (by dsimp only; omega)
              · exact nin2 (by dsimp only; omega) (by dsimp only; omega)
              · exact nin2 (by dsimp only; omega) (by dsimp only; omega)
              · exact nin2 (by dsimp only; omega) (by dsimp only; omega)
              · exact nin2 (by dsimp only; omega) (by dsimp only; omega)
              exact o2 q hq
          have p1 := offAll hxD1 hxI1 NxD NxI (Nk.get (.tail _ (.tail _ (.head _)))) (notCode_list _ _) o1
          have p2 : ∀ q ∈ exD ++ (exI ++ ro), q.1 ∉ [44, 37] := fun q hq => nin2 (offAll hxD1 hxI1 NxD NxI eD' (notCode_tab tD10 eD') (fun q hq e => o2 q hq (e ▸ .head _)) q hq) (offAll hxD1 hxI1 NxD NxI eI' (notCode_tab tI10 eI') (fun q hq e => o2 q hq (e ▸ .tail _ (.head _))) q hq)
          have p3 := offAll hxD1 hxI1 NxD NxI (Nk.get (.tail _ (.head _))) (notCode_list _ _) o3
          have p4 := offAll hxD1 hxI1 NxD NxI (Nk.get (.head _)) (notCode_it _ _) o4
          have tW : @Ne Nat t W0 := fun q => by
            have := N9.get (.tail _ (.head _)); rw [← q] at this; exact absurd (this.symm.trans ft) (by simp)
          have N10 : News g L' h10 ((t, tupObj [.int (rowX ring.length cur i / rowY ring.length prev i) u7, .int (rowX ring.length cur i % rowY ring.length prev i) u8]) :: (I, itR (0 + ((i + 1 : Nat) : Int)) ((ring.length : Int) - ((i + 1 : Nat) : Int))) :: (W0, listOf (List.toArray avs) ea) :: (R, listOf (List.toArray (rf.map Value.ref ++ [.ref pp, .ref c])) e) :: (pp, listOf (List.toArray pvs) ep) :: (c, listOf (List.toArray cvs) ec) :: (44, tabObj tD') :: (37, tabObj tI') :: (exD ++ (exI ++ ro))) := by
            refine newsOne (fun q hq => ?_) et ftg.2 ftg.1
            revert q
            refine List.forall_mem_cons.mpr ⟨?_, List.forall_mem_cons.mpr ⟨?_, List.forall_mem_cons.mpr ⟨?_, List.forall_mem_cons.mpr ⟨?_, List.forall_mem_cons.mpr ⟨?_, List.forall_mem_cons.mpr ⟨?_, List.forall_mem_cons.mpr ⟨?_, fun q hq => ?_⟩⟩⟩⟩⟩⟩⟩
            · exact Nk _ (by k_mem)
            · exact Nk _ (by k_mem)
            · exact Nk _ (by k_mem)
            · exact Nk _ (by k_mem)
            · exact Nk _ (by k_mem)
            · exact ⟨eD', n44, g44⟩
            · exact ⟨eI', n37, g37⟩
            rcases List.mem_append.mp hq with hq | hq
            · exact NxD q hq
            rcases List.mem_append.mp hq with hq | hq
            · exact NxI q hq
            exact Nk q (.tail _ (.tail _ (.tail _ (.tail _ (.tail _ hq)))))
          have hT' : ∀ h', (∀ b o, g.get? b = some o → h'.get? b = some o) → News g L' h' ((44, tabObj tD') :: (37, tabObj tI') :: (exD ++ (exI ++ ro))) → TabD h' ∧ TabI h' := fun h' kp N' =>
            ⟨hxD2 h' kp (fun q hq => N' q (.tail _ (.tail _ (List.mem_append_left _ hq)))) (N'.get (.head _)), hxI2 h' kp (fun q hq => N' q (.tail _ (.tail _ (List.mem_append_right _ (List.mem_append_left _ hq))))) (N'.get (.tail _ (.head _)))⟩
          have hR' : ∀ h', News g L' h' (exD ++ (exI ++ ro)) → RowsAt h' rf pre := fun h' N' => hR h' fun q hq => N' q (List.mem_append_right _ (List.mem_append_right _ hq))
          have hG' : ∀ h', News g L' h' ((pp, listOf (List.toArray pvs) ep) :: (c, listOf (List.toArray cvs) ec) :: (exD ++ (exI ++ ro))) → h'.get? rg = some (listOf vs.toArray er) := fun h' N' => hG h' fun q hq => N' q (by
            revert q
            refine List.forall_mem_cons.mpr ⟨?_, List.forall_mem_cons.mpr ⟨?_, fun q hq => ?_⟩⟩
            · exact .head _
            · exact .tail _ (.head _)
            exact .tail _ (.tail _ (List.mem_append_right _ (List.mem_append_right _ hq))))
          have hRf' : ∀ ra ∈ rf, ∃ o, (ra, o) ∈ exD ++ (exI ++ ro) := fun ra hra => (hRf ra hra).imp fun o ho => List.mem_append_right _ (List.mem_append_right _ ho)
          generalize hro : exD ++ (exI ++ ro) = ro' at *
          generalize hqx : rowX ring.length cur i / rowY ring.length prev i = qx at *
          generalize hrx : rowX ring.length cur i % rowY ring.length prev i = rx at *
          clear F9 N9 Nk
          obtain ⟨k', rfl⟩ : ∃ k', k = k' + 1 := ⟨k - 1, by omega⟩
          have hstep := rowL_step (prev := prev) (cur := cur) (acc := acc) (show ring.length - i = (ring.length - (i + 1)) + 1 by omega)
          rw [← hrow, hqx, hrx] at hstep
          k_steps
          · rename_i h11 F11 N11 _ _ _ hne
            have tabs := hT' h11 F11.keep (fun q hq => N11 q (.tail _ (.tail _ (.tail _ (.tail _ (.tail _ (.tail _ hq)))))))
            refine hret .none _ _ (growS F11 (hG' h11 fun q hq => N11 q (by
              revert q
              refine List.forall_mem_cons.mpr ⟨?_, List.forall_mem_cons.mpr ⟨?_, fun q hq => ?_⟩⟩
              · k_mem
              · k_mem
              exact .tail _ (.tail _ (.tail _ (.tail _ (.tail _ (.tail _ (.tail _ (.tail _ hq)))))))))) tabs.1 tabs.2 ?_
            rw [hrun, runL_succ, hstep, if_pos hne]
          · rename_i h11 F11 N11 _ _ _ hz _ _ _ hq0
            have tabs := hT' h11 F11.keep (fun q hq => N11 q (.tail _ (.tail _ (.tail _ (.tail _ (.tail _ (.tail _ hq)))))))
            refine hret (.ref R) _ _ (growS F11 (hG' h11 fun q hq => N11 q (by
              revert q
              refine List.forall_mem_cons.mpr ⟨?_, List.forall_mem_cons.mpr ⟨?_, fun q hq => ?_⟩⟩
              · k_mem
              · k_mem
              exact .tail _ (.tail _ (.tail _ (.tail _ (.tail _ (.tail _ (.tail _ (.tail _ hq)))))))))) tabs.1 tabs.2 ?_
            rw [hrun, runL_succ, hstep, if_neg (by simpa using hz), if_pos hq0]
            exact ⟨R, rf ++ [pp, c], e, rfl, by rw [List.map_append]; exact N11.get (by k_mem), rowsAt_two (hR' h11 fun q hq => N11 q (.tail _ (.tail _ (.tail _ (.tail _ (.tail _ (.tail _ (.tail _ (.tail _ hq))))))))) (N11.get (by k_mem)) (N11.get (by k_mem)) hip hic, fresh N11 (by k_mem) (by k_mem) (by k_mem) (fun q hq => .tail _ (.tail _ (.tail _ (.tail _ (.tail _ (.tail _ (.tail _ (.tail _ hq)))))))) hRf' p2 q3 q4 q5 q6 q7 q8⟩
          · rename_i hz _ _ _ hq0 h11 F11 N11
            rw [List.push_toArray] at N11
            refine UnrEnd.intro F11 N11 ((W0, listOf (List.toArray (avs ++ [.int qx u7])) (ea + 1)) :: (R, listOf (List.toArray (rf.map Value.ref ++ [.ref pp, .ref c])) e) :: (pp, listOf (List.toArray pvs) ep) :: (c, listOf (List.toArray cvs) ec) :: (44, tabObj tD') :: (37, tabObj tI') :: ro') (fun p hp => .tail _ hp)
              (List.forall_mem_cons.mpr ⟨neN (by dsimp only; omega), List.forall_mem_cons.mpr ⟨neN (by dsimp only; omega), List.forall_mem_cons.mpr ⟨neN (by dsimp only; omega), List.forall_mem_cons.mpr ⟨neN (by dsimp only; omega), List.forall_mem_cons.mpr ⟨neN (by dsimp only; omega), List.forall_mem_cons.mpr ⟨neN (by dsimp only; omega), p4⟩⟩⟩⟩⟩⟩)
              ⟨acc ++ [qx], avs ++ [.int qx u7], ea + 1, tD', tI', ro', ts, mS, mR, mW, rfl, IntsAre.append hia (.cons _ _ .nil), by simp [lac], ?_, ?_, p1, p2, p3, p4, hT', hR', hG', hRf'⟩
            · intro x hx
              rcases List.mem_append.mp hx with hx | hx
              · exact bac x hx
              · rw [List.mem_singleton.mp hx, ← hqx]
                have q0 : 0 ≤ rowX ring.length cur i / rowY ring.length prev i := Int.ediv_nonneg x0 (Int.le_of_lt y0)
                exact ⟨by rw [← hqx] at hq0; omega, Int.lt_of_le_of_lt (Int.ediv_le_self _ x0) x1⟩
            · rw [hstep, if_neg (by simpa using hz), if_neg hq0]
        · have c1 := bc.at (show (0 + (i : Int)).toNat < cur.length by omega)
          exact ⟨IntMulOk.of_left (Nat.le_trans (bits_of_lt (by omega) c1.2) (Nat.le_trans (Nat.pow_le_pow_right (by decide) (show pre.length + 3 ≤ 6 by omega)) (by decide)))⟩
      case done =>
        rintro m2 nw ⟨acc, avs, ea, tD, tI, ro, ts, mS, mR, mW, rfl, hia, lac, bac, hrow, o1, o2, o3, o4, hT, hR, hG, hRf⟩ h8 tk8 F8 N8
        obtain ⟨k', rfl⟩ : ∃ k', k = k' + 1 := ⟨k - 1, by omega⟩
        have hw : @Ne Nat W0 R := by omega
        rw [Nat.sub_self] at hrow
        k_steps
        rename_i h9 F9 N9
        rw [List.push_toArray] at N9
        have el : (rf.map Value.ref ++ [.ref pp, .ref c]) ++ [.ref W0] = (rf ++ [pp]).map Value.ref ++ [.ref c, .ref W0] := by simp
        rw [el] at N9
        have b7 : Bd 7 cur := fun x hx => ⟨(bc x hx).1, Int.lt_of_lt_of_le (bc x hx).2 (two_pow_le (Nat.pow_le_pow_right (by decide) (by omega)))⟩
        refine ⟨k', Nat.lt_succ_self _, h9, _, m2, rf ++ [pp], pre ++ [prev], cur, acc, c, W0, cvs, avs, ec, ea, e + 1, tD, tI, (pp, listOf (List.toArray pvs) ep) :: ro, ts, rfl, F9, mS, mR, fun q hq => N9 q ?mem, hic, hia, lc, lac, b7, by rw [List.length_append]; exact bac, by rw [List.length_append, List.length_singleton]; omega, ?run,
          ⟨q2, hw, q3, q4, q7, q8, by omega, by omega⟩, List.forall_mem_cons.mpr ⟨q1, o1⟩, List.forall_mem_cons.mpr ⟨nin2 q5 q6, o2⟩, fun h' kp N' => hT h' kp fun q hq => N' q ?mem2, fun h' N' => rowsAt_one (hR h' fun q hq => N' q (.tail _ hq)) (N'.get (.head _)) hip, fun h' N' => hG h' fun q hq => N' q ?mem3, fun ra hra => (List.mem_append.mp hra).elim (fun h => (hRf ra h).imp fun o ho => .tail _ ho) fun h => by rw [List.mem_singleton.mp h]; exact ⟨_, .head _⟩⟩
        case run => rw [hrun, runL_succ, hrow]; rfl
        case mem =>
          revert q
          refine List.forall_mem_cons.mpr ⟨?_, List.forall_mem_cons.mpr ⟨?_, List.forall_mem_cons.mpr ⟨?_, List.forall_mem_cons.mpr ⟨?_, List.forall_mem_cons.mpr ⟨?_, List.forall_mem_cons.mpr ⟨?_, fun q hq => ?_⟩⟩⟩⟩⟩⟩
          · k_mem
          · k_mem
          · k_mem
          · k_mem
          · k_mem
          · k_mem
          exact .tail _ (.tail _ (.tail _ (.tail _ (.tail _ (.tail _ hq)))))
        case mem2 =>
          revert q
          refine List.forall_mem_cons.mpr ⟨?_, List.forall_mem_cons.mpr ⟨?_, fun q hq => ?_⟩⟩
          · k_mem
          · k_mem
          exact .tail _ (.tail _ (.tail _ hq))
        case mem3 =>
          revert q
          refine List.forall_mem_cons.mpr ⟨?_, List.forall_mem_cons.mpr ⟨?_, fun q hq => ?_⟩⟩
          · k_mem
          · k_mem
          exact .tail _ (.tail _ (.tail _ hq))
end
end Mine
end
theorem Mine.freshC7 : True := by
  w_top off
  trivial
section -- C7
open PySem PySem.W PyProof.Rows PySem.Spec PySem.Calls
namespace Mine
section
local macro_rules | `(tactic| walk_at "execs cons") => `(tactic| (k_here; (try dsimp only); (try k_fold); (try k_gentoks); refine wpAny_execs_cons ?_))
local macro_rules | `(tactic| walk_at "call type:range") => `(tactic| ((with_reducible show wpAny _ _ (call _ [Value.int _ _]) _ _ _); k_dflt (refine range1_rows (by k_asm) (by k_asm) ?_); intro _ _ _ _ _ _ _ _ _))
local macro_rules | `(tactic| walk_at "call type:range") => `(tactic| ((with_reducible show wpAny _ _ (call _ [Value.int _ _, Value.int _ _]) _ _ _); k_dflt (refine range2_rows (by k_asm) (by k_asm) ?_); intro _ _ _ _ _ _ _ _ _))
local macro_rules | `(tactic| walk_at "pyIter ref") => `(tactic| (refine Hid.out ?_))
local macro_rules | `(tactic| walk_at "subscriptTail Name Name ref int") => `(tactic| (k_dflt (refine itemRefs (by kmk_list) (by omega) (by omega) (by omega) ?_)))
local macro_rules | `(tactic| walk_at "UnrEnd") => `(tactic| (refine Hid.out ?_))
theorem onesRow_step {n k i r j : Nat} {row acc : List Int} (h : k = j + 1) : onesRow n row r k i acc = onesRow n row r j (i + 1) (if row.getD i 0 = 1 then acc ++ [onePair n r i] else acc) := by
  rw [h]; rfl
theorem ones_pair {n i j : Nat} {v3 v2 v1 v0 : Int} (e3 : v3 = (0 + (j : Int) - 1) % (n : Int)) (e2 : v2 = (0 + (j : Int) + (1 + (i : Int))) % (n : Int)) (e1 : v1 = (0 + (j : Int) - 1) % (n : Int)) (e0 : v0 = (0 + (j : Int) + (1 + (i : Int))) % (n : Int)) :
    (8 * if v2 < v3 then v2 else v3) + (if v0 > v1 then v0 else v1) = onePair n (1 + i) j := by
  have h1 : v1 = v3 := by rw [e1, e3]
  have h0 : v0 = v2 := by rw [e0, e2]
  have h3 : ((j : Int) - 1) % (n : Int) = v3 := by rw [e3, Int.zero_add]
  have h2 : ((j : Int) + ((1 + i : Nat) : Int)) % (n : Int) = v2 := by rw [e2, Int.zero_add]; push_cast; rfl
  unfold onePair
  rw [h1, h0, h3, h2]
  split <;> split <;> omega
inductive OnesInv (n : Nat) (ra O : Addr) (rows : List (List Int)) (i : Nat) (m : Mp) (nw : List (Addr × Obj)) : Prop
  | intro (acc : List Int) (avs : List Value) (ea : Nat) (ts : Tok)
    (c1 : m (Str.ofString "size") = some (.int (n : Nat) ts))
    (c2 : m (Str.ofString "rows") = some (.ref ra))
    (c3 : m (Str.ofString "ones") = some (.ref O))
    (c4 : nw = [(O, listOf (List.toArray avs) ea)])
    (c5 : IntsAre avs acc)
    (c6 : acc.length ≤ 7 * i)
    (c7 : onesL n rows = onesRows n rows (n - 3 - i) (1 + i) acc) : OnesInv n ra O rows i m nw
inductive OnesInv2 (n : Nat) (ra O I : Addr) (rows : List (List Int)) (i : Nat) (acc : List Int) (j : Nat) (m : Mp) (nw : List (Addr × Obj)) : Prop
  | intro (acc2 : List Int) (avs : List Value) (ea : Nat) (ts tr : Tok)
    (c1 : m (Str.ofString "size") = some (.int (n : Nat) ts))
    (c2 : m (Str.ofString "rows") = some (.ref ra))
    (c3 : m (Str.ofString "ones") = some (.ref O))
    (c4 : m (Str.ofString "r") = some (.int (1 + (i : Int)) tr))
    (c5 : nw = [(I, itR (1 + ((i + 1 : Nat) : Int)) (((n - 3 : Nat) : Int) - ((i + 1 : Nat) : Int))), (O, listOf (List.toArray avs) ea)])
    (c6 : IntsAre avs acc2)
    (c7 : acc2.length ≤ 7 * i + j)
    (c8 : onesRow n (rows.getD (1 + i) []) (1 + i) n 0 acc = onesRow n (rows.getD (1 + i) []) (1 + i) (n - j) j acc2) : OnesInv2 n ra O I rows i acc j m nw
set_option maxRecDepth 100000 in
set_option maxHeartbeats 8000000 in
theorem lawOnes {w : World} {hb : Heap} {p : Program} {loose : List Str} {mean : ExcName → Option Value} {mg mb : Str → Option Value}
   {A : Around} {s : Shared} {Q E : Value → Shared → Prop} {ra : Addr} {refs : List Addr} {rows : List (List Int)} {n : Nat} {tn : Tok}
   (X : (hd.heap_39 w.params).In hb) (T : Top p loose mean mg mb hb) (st : hb.StaysIn s.heap)
   (hdp : A.depth + 10 < recursionLimit) (hun : A.units + 200 < cLine) (hh : A.handled = none)
   (hl : s.heap.IsList ra (refs.map Value.ref).toArray) (hR : RowsAt s.heap refs rows) (n4 : 4 ≤ n) (n7 : n ≤ 7) (lr : rows.length = n - 1) (hn : ∀ row ∈ rows, row.length = n)
   (hret : ∀ D vs' ns' c h' tk', s.heap.StaysIn h' → s.heap.get? D = none → h'.get? D = some (listOf (List.toArray vs') c) → IntsAre vs' ns' → ns'.Perm (onesL n rows) → ns'.Pairwise (· ≤ ·) → Q (.ref D) { s with heap := h', toks := tk' }) :
    wpAny (model prog0 w) A (call (.ref 126) [.ref ra, .int (n : Nat) tn]) Q E s := by
  revert X; unfold prog0; k_fill; intro X
  obtain ⟨hdl, dp, fr, gd, un⟩ := A
  obtain rfl : hdl = none := hh
  dsimp only at hdp hun
  k_dflt ( refine' wpAny_call (enterX (news := []) (by assumption) (by assumption) (by assumption) (by exact fun _ h => nomatch h) (by k_is) (by k_is) (by dsimp only; omega) (by exact BindsTo.of_eq rfl) (by exact locs rfl) ?_ (by decide) (by exact rfl) (by exact rfl) (by exact rfl)))
  intro g L' h' G S l F N X' T' st'
  have keepG : s.heap.StaysIn g := G.stays
  have hl' : g.IsList ra (refs.map Value.ref).toArray := hl.at fun o e => keepG _ _ e
  have lf : refs.length = n - 1 := by rw [hR.1, lr]
  have hR' : ∀ r, r < refs.length → ∃ vs, g.IsList (refs.getD r 0) (List.toArray vs) ∧ IntsAre vs (rows.getD r []) ∧ (rows.getD r []).length = n := fun r hr => by
    have h1 : refs[r]? = some (refs.getD r 0) := by simp [List.getD, List.getElem?_eq_getElem hr]
    have hr2 : r < rows.length := by omega
    have h2 : rows[r]? = some (rows.getD r []) := by simp [List.getD, List.getElem?_eq_getElem hr2]
    obtain ⟨vs, e, h3, h4⟩ := hR.2 r _ _ h1 h2
    refine ⟨vs, PySem.IsL.isList (n := e) (keepG _ _ h3), h4, hn _ ?_⟩
    exact List.mem_of_getElem? h2
  try dsimp only
  try k_fold
  k_steps
  rename_i O h0 l0 h00 F0 N0 h1 tk1 t1 u1 v1 hrr F1 N1 keep1
  refine ⟨?_⟩
  refine iter_rangeUnr (n := n - 3) rfl hrr (range2_small (by omega) (by omega) (by omega) (by omega)) (range2_size (by omega)) F1 N1 ?_
  intro I hI
  k_lt hI
  refine rangeInd (OnesInv n ra O rows) ?done ?step _ _ _ _ (Nat.zero_add _) ?init
  case init => exact ⟨[], [], 0, tn, rfl, rfl, rfl, rfl, .nil, by simp, rfl⟩
  case step =>
    rintro i m nw hin ⟨acc, avs, ea, ts, mS, mR, mO, rfl, hia, lac, hones⟩ ti h2 tk2 F2 N2
    obtain ⟨rv, hrv, hri, lrow⟩ := hR' (1 + i) (by omega)
    have er : (1 + (i : Int)).toNat = 1 + i := by omega
    k_steps
    rename_i h3 tk3 t3 u3 v3 hrr3 F3 N3 keep3
    refine ⟨?_⟩
    refine iter_rangeUnr (n := n) rfl hrr3 (range_small _) (range_size _) F3 N3 ?_
    intro I2 hI2
    k_lt hI2
    refine rangeInd (OnesInv2 n ra O I rows i acc) ?done2 ?step2 _ _ _ _ (Nat.zero_add _) ?init2
    case init2 => exact ⟨acc, avs, ea, ts, ti, mS, mR, mO, rfl, rfl, hia, by omega, rfl⟩
    case step2 =>
      rintro j m2 nw hjn ⟨acc2, avs2, ea2, ts2, tr2, mS2, mR2, mO2, mr2, rfl, hia2, lac2, hrow⟩ tj h4 tk4 F4 N4
      have ej : (0 + (j : Int)).toNat = j := by omega
      have hst := onesRow_step (i := j) (n := n) (row := rows.getD (1 + i) []) (r := 1 + i) (acc := acc2) (show n - j = (n - (j + 1)) + 1 by omega)
      k_steps
      · rename_i t a12 tk2' v3 a11 a10 a9 v2 a8 a7 a6 h7 tk7 v1 a5 a4 a3 v0 a2 a1 a0 h8 tk8 h9 F9 N9
        rw [ej] at a12
        rw [List.push_toArray, ones_pair (n := n) a11 a8 a5 a2] at N9
        refine ⟨UnrEnd.intro F9 N9 [(I, itR (1 + ((i + 1 : Nat) : Int)) (((n - 3 : Nat) : Int) - ((i + 1 : Nat) : Int))), (O, listOf (List.toArray (avs2 ++ [.int (onePair n (1 + i) j) tk8])) (ea2 + 1))] (fun q hq => hq) ?off0
          ⟨acc2 ++ [onePair n (1 + i) j], _, ea2 + 1, ts2, tr2, mS2, mR2, mO2, mr2, rfl, IntsAre.append hia2 (.cons _ _ .nil), by simp; omega, by rw [hrow, hst, if_pos a12]⟩⟩
        exact List.forall_mem_cons.mpr ⟨neN (by dsimp only; omega), List.forall_mem_cons.mpr ⟨neN (by dsimp only; omega), fun _ h => nomatch h⟩⟩
      · rename_i t a0
        rw [ej] at a0
        refine ⟨UnrEnd.intro F4 N4 [(I, itR (1 + ((i + 1 : Nat) : Int)) (((n - 3 : Nat) : Int) - ((i + 1 : Nat) : Int))), (O, listOf (List.toArray avs2) ea2)] (fun q hq => hq) ?off1
          ⟨acc2, _, ea2, ts2, tr2, mS2, mR2, mO2, mr2, rfl, hia2, by omega, by rw [hrow, hst, if_neg a0]⟩⟩
        exact List.forall_mem_cons.mpr ⟨neN (by dsimp only; omega), List.forall_mem_cons.mpr ⟨neN (by dsimp only; omega), fun _ h => nomatch h⟩⟩
    case done2 =>
      rintro m2 nw ⟨acc2, avs2, ea2, ts2, tr2, mS2, mR2, mO2, mr2, rfl, hia2, lac2, hrow⟩ h4 tk4 F4 N4
      k_steps
      refine ⟨UnrEnd.intro F4 N4 [(O, listOf (List.toArray avs2) ea2)] (fun q hq => hq) ?off2
          ⟨acc2, _, ea2, ts2, mS2, mR2, mO2, rfl, hia2, by omega, ?_⟩⟩
      · exact List.forall_mem_cons.mpr ⟨neN (by dsimp only; omega), fun _ h => nomatch h⟩
      · rw [Nat.sub_self] at hrow
        rw [hones, show n - 3 - i = (n - 3 - (i + 1)) + 1 by omega, onesRows, hrow]
        rfl
  case done =>
    rintro m nw ⟨acc, avs, ea, ts, mS, mR, mO, rfl, hia, lac, hones⟩ h2 tk2 F2 N2
    k_steps
    rename_i D vs' ns' c h9 F9 N9 hi9 e9 p9 o9 b9 p0 l9
    rw [Nat.sub_self] at hones
    refine hret D vs' ns' c h9 _ (fun b o e => F9.keep b o (keepG b o e)) (Grow.fresh (l := []) (G : Grow [] s.heap g) (N9.fresh (.head _)) (fun h => nomatch h)) (N9.get (.head _)) hi9 ?_ o9
    rw [hones]
    exact p9
end
end Mine
end
section
open PySem PySem.W PyProof.Rows PySem.Spec PySem.Calls Mine
local macro_rules | `(tactic| walk_at "subscriptTail") => `(tactic| ((with_reducible show wpAny _ _ (subscriptTail _ _ (Value.ref _) (Value.int _ _)) _ _ _); k_dflt (refine itemW (by is_list) (by assumption) (by (try simp only [List.length_set]); omega) (by (try simp only [List.length_set]); omega) (by (try simp only [List.length_set]); omega) ?_); intro _ _ _))
local macro_rules | `(tactic| walk_at "setItem ref int") => `(tactic| ((with_reducible show wpAny _ _ (setItem (Value.ref _) (Value.int _ _) (Value.int _ _)) _ _ _); k_dflt (refine' setW (by k_asm) (by k_asm) (by k_mem) (by assumption) (by k_upd) (by (try simp only [List.length_set]); omega) (by (try simp only [List.length_set]); omega) (by (try simp only [List.length_set]); omega) ?_); intro h' vq nq eq en ln F' N' iq; rw [← eq] at N'; (try k_sweep)))
local macro_rules | `(tactic| walk_at "binaryOp Add ref ref") => `(tactic| ((with_reducible show wpAny _ _ (binaryOp _ (Value.ref _) (Value.ref _)) _ _ _); k_dflt (refine' kmk_add_ints (by k_asm) (by k_asm) (by kmk_list) (by kmk_list) (by first | assumption | exact .cons _ _ .nil) (by first | assumption | exact .cons _ _ .nil) ?_ (by rw [sizeLine_eq]; (try simp only [List.length_append, List.length_singleton]); omega)); intro D' ws' h' F' N' l1 hI'; (try k_lt l1); (try k_sweep)))
local macro_rules | `(tactic| walk_at "execs cons") => `(tactic| (k_here; (try dsimp only); (try k_fold); (try k_gentoks); refine wpAny_execs_cons ?_))
theorem Mine.freshC6 : True := by
  w_top off
  trivial
section -- C6
open PySem PySem.W PyProof.Rows PySem.Spec PySem.Calls
namespace Mine
section
local macro_rules | `(tactic| walk_at "idle") => `(tactic| fail)
local macro_rules | `(tactic| walk_at "compareOp In int ref") => `(tactic| ((with_reducible show wpAny _ _ (compareOp CmpOp.In (Value.int _ _) (Value.ref _)) _ _ _); k_dflt (refine in_list_ints (by is_list) (by assumption) ?_)))
local macro_rules | `(tactic| walk_at "call builtin:list.index") => `(tactic| ((with_reducible show wpAny _ _ (call (Value.builtin "list.index") [Value.ref _, Value.int _ _]) _ _ _); k_dflt (refine indexW (by is_list) (by assumption) (by omega) (by assumption) ?_)))
local macro_rules | `(tactic| walk_at "compareOp Eq ref ref") => `(tactic| ((with_reducible show wpAny _ _ (compareOp CmpOp.Eq (Value.ref _) (Value.ref _)) _ _ _); k_dflt (refine eq_intsK (by is_list) (by assumption) (by is_list) (.cons _ _ (.cons _ _ (.cons _ _ .nil))) (by simp only [deeper_units]; omega) ?_)))
local macro_rules | `(tactic| walk_at "exec While BoolOp") => `(tactic| (refine whlHid ?_))
inductive CutInv (g : Heap) (L : Addr) (ring : List Int) (s0 : Shared) (k : Nat) (s : Shared) : Prop
  | intro (h : Heap) (tk : Nat) (m : Mp) (cs ns js : List Int) (cv nv jv : List Value) (C D J : Addr) (ec en ej : Nat)
    (c1 : s = { s0 with heap := h, toks := tk })
    (c2 : Fr g L h m)
    (c3 : m (Str.ofString "corners") = some (.ref C))
    (c4 : m (Str.ofString "counts") = some (.ref D))
    (c5 : m (Str.ofString "joined") = some (.ref J))
    (c6 : News g L h [(J, listOf (List.toArray jv) ej), (D, listOf (List.toArray nv) en), (C, listOf (List.toArray cv) ec)])
    (c7 : IntsAre cv cs)
    (c8 : IntsAre nv ns)
    (c9 : IntsAre jv js)
    (c10 : cs.length = k + 3)
    (c11 : ns.length = k + 3)
    (c12 : k ≤ 4)
    (c13 : js.length + k ≤ 4)
    (c14 : (∀ x ∈ cs, 0 ≤ x ∧ x < 7))
    (c15 : (@Ne Nat J D ∧ @Ne Nat J C ∧ @Ne Nat D C))
    (c16 : cutOf ring = cutL k cs ns js) : CutInv g L ring s0 k s
theorem ahead_wrap {i n : Nat} (h : 0 < n) : wrap ((i : Int) - 1) n = ahead n i := by
  unfold wrap ahead
  split <;> split <;> omega
theorem pair_eq (a b : Int) : (8 * if b < a then b else a) + (if b > a then b else a) = 8 * min a b + max a b := by
  split <;> split <;> omega
theorem mod_nat {i n : Nat} {v : Int} (e : v = ((i : Int) + 1) % (n : Int)) : v = (((i + 1) % n : Nat) : Int) := by rw [e]; push_cast; rfl
theorem cut_turn {k : Nat} {cs ns nq1 nq : List Int} {v x0 x1 x2 : Int} (lc : cs.length = k + 3) (ln : ns.length = k + 3) (hj : ns.idxOf 1 < ns.length) (ev : v = ((ns.idxOf 1 : Nat) + 1 : Int) % ((k + 3 : Nat) : Int))
    (e1 : x1 = cs.getD (wrap ((ns.idxOf 1 : Nat) - 1 : Int) cs.length) 0) (e0 : x0 = cs.getD (wrap ((ns.idxOf 1 : Nat) - 1 : Int) cs.length) 0) (e2 : x2 = ns.getD (wrap ((ns.idxOf 1 : Nat) - 1 : Int) ns.length) 0)
    (en1 : nq1 = ns.set (wrap ((ns.idxOf 1 : Nat) - 1 : Int) ns.length) (x2 - 1)) (en : nq = nq1.set (wrap v nq1.length) (ns.getD v.toNat 0 - 1)) :
    ((8 * if cs.getD v.toNat 0 < x1 then cs.getD v.toNat 0 else x1) + (if cs.getD v.toNat 0 > x0 then cs.getD v.toNat 0 else x0)) = cutPair cs ns.length (ns.idxOf 1) ∧
    cs.take ((ns.idxOf 1 : Nat) : Int).toNat ++ cs.drop ((ns.idxOf 1 : Nat) + 1 : Int).toNat = cs.take (ns.idxOf 1) ++ cs.drop (ns.idxOf 1 + 1) ∧
    nq.take ((ns.idxOf 1 : Nat) : Int).toNat ++ nq.drop ((ns.idxOf 1 : Nat) + 1 : Int).toNat = cutCounts ns (ns.idxOf 1) := by
  have ev' := mod_nat ev
  rw [ahead_wrap (by omega)] at e1 e0 e2 en1
  have hv : v.toNat = (ns.idxOf 1 + 1) % (k + 3) := by omega
  have ew : wrap v nq1.length = v.toNat := if_neg (by omega)
  have l1 : nq1.length = ns.length := by rw [en1]; simp
  have t1 : ((ns.idxOf 1 : Nat) : Int).toNat = ns.idxOf 1 := by omega
  have t2 : ((ns.idxOf 1 : Nat) + 1 : Int).toNat = ns.idxOf 1 + 1 := by omega
  rw [t1, t2]
  refine ⟨?_, rfl, ?_⟩
  · rw [e1, e0, pair_eq, hv, lc]; unfold cutPair; rw [ln]
  · rw [en, ew, en1, e2, hv]; unfold cutCounts; rw [ln]
set_option maxRecDepth 100000 in
set_option maxHeartbeats 8000000 in
theorem lawCut {w : World} {hb : Heap} {p : Program} {loose : List Str} {mean : ExcName → Option Value} {mg mb : Str → Option Value}
   {A : Around} {s : Shared} {Q E : Value → Shared → Prop} {rg : Addr} {vs : List Value} {ring : List Int}
   (X : (hd.heap_39 w.params).In hb) (T : Top p loose mean mg mb hb) (st : hb.StaysIn s.heap)
   (hdp : A.depth + 10 < recursionLimit) (hun : A.units + 200 < cLine) (hh : A.handled = none)
   (hl : s.heap.IsList rg vs.toArray) (hi : IntsAre vs ring) (n4 : 4 ≤ ring.length) (n7 : ring.length ≤ 7) (hr : ∀ e ∈ ring, 1 ≤ e ∧ e < 256)
   (hret : ∀ r h' tk', s.heap.StaysIn h' → (match cutOf ring with | none => r = .none | some js => ∃ a jv e, r = .ref a ∧ h'.get? a = some (listOf (List.toArray jv) e) ∧ IntsAre jv js ∧ s.heap.get? a = none) → Q r { s with heap := h', toks := tk' }) :
    wpAny (model prog0 w) A (call (.ref 119) [.ref rg]) Q E s := by
  revert X; unfold prog0; k_fill; intro X
  obtain ⟨hdl, dp, fr, gd, un⟩ := A
  obtain rfl : hdl = none := hh
  dsimp only at hdp hun
  k_dflt ( refine' wpAny_call (enterX (news := []) (by assumption) (by assumption) (by assumption) (by exact fun _ h => nomatch h) (by k_is) (by k_is) (by dsimp only; omega) (by exact BindsTo.of_eq rfl) (by exact locs rfl) ?_ (by decide) (by exact rfl) (by exact rfl) (by exact rfl)))
  intro g L' h' G S l F N X' T' st'
  have hl' : g.IsList rg vs.toArray := hl.at fun o e => G _ _ e (fun h => nomatch h)
  try dsimp only
  try k_fold
  k_steps
  refine ⟨?_⟩
  refine whlInd (by k_dflt passes_own) (CutInv g L' ring s) ?turn (ring.length - 3) _ ?init
  case init =>
    rename_i h8 tk3 t1 u1 v1 hrr keep8 D2 vr c1 h7 tk' hI l3 D1 c0 h6 l2 D0 h5 l1 h4 h3 h2 tk2 J h1 l0 h0 F0 N0
    refine ⟨h0, _, _, _, ring, [], vr, vs, [], D2, D1, J, c1, c0, 0, rfl, F0, rfl, rfl, rfl, fun q hq => N0 q ?mem, hI, hi, .nil, ?l1, by omega, by omega, by simp; omega, ?bd, ⟨by omega, by omega, by omega⟩, ?run⟩
    case mem =>
      rcases List.mem_cons.mp hq with rfl | hq
      · k_mem
      rcases List.mem_cons.mp hq with rfl | hq
      · k_mem
      rcases List.mem_cons.mp hq with rfl | hq
      · k_mem
      exact nomatch hq
    case l1 => rw [rangeKs_length]; omega
    case bd => exact fun x hx => by have := mem_rangeKs hx; omega
    case run => unfold cutOf rangeKs; simp
  case turn =>
    rintro k s1 ⟨h, tk, m, cs, ns, js, cv, nv, jv, C, D, J, ec, en, ej, rfl, F, mC, mN, mJ, N, hic, hin, hij, lc, ln, k4, lj, bc, ⟨q1, q2, q3⟩, hcut⟩
    have hsz : (List.toArray nv).size = k + 3 := by rw [List.size_toArray, hin.length, ln]
    have frA : ∀ {h : Heap} {nw : List (Addr × Obj)} {a : Addr} {o : Obj}, News g L' h nw → (a, o) ∈ nw → s.heap.get? a = none := fun N m => Grow.fresh (l := []) G (N.fresh m) (fun h => nomatch h)
    have stay : ∀ {h' m'}, Fr g L' h' m' → s.heap.StaysIn h' := fun F' b o e => F'.keep b o (G b o e fun h => nomatch h)
    by_cases hk0 : k = 0
    · subst hk0
      k_steps
      · rename_i h1 F1 N1 l1 hns
        refine hret (.ref J) _ _ (stay F1) ?_
        rw [hcut, cutL, if_pos hns]
        exact ⟨J, jv, ej, rfl, N1.get (by k_mem), hij, frA N1 (o := listOf (List.toArray jv) ej) (by k_mem)⟩
      · rename_i h1 F1 N1 l1 hns
        refine hret .none _ _ (stay F1) ?_
        rw [hcut, cutL, if_neg hns]
    · iterate 20 (first | (k_unfold; (try dsimp only)) | walk1 | (dsimp only; walk1))
      · rename_i hany
        have h1 : (1 : Int) ∈ ns := by simpa using hany
        have hj : ns.idxOf 1 < ns.length := List.idxOf_lt_length_iff.mpr h1
        iterate 200 (try (first | (k_unfold; (try dsimp only)) | walk1 | (dsimp only; walk1)))
        rename_i tk6 h18 tk5 v a9 a8 a7 h17 tk4 x2 t5 a6 t4 D7 h16 l7 h15 h14 vq1 nq1 eq1 en1 ln1 iq1 h13 vq nq eq en lnq iq tk3 x1 t3 a5 t2 h12 tk2 x0 t1 a4 t0 h11 tk1 h10 tk0 D6 ws5 h9 hI5 a3 hL3 l6 D5 ws4 h8 hI4 a2 hL2 l5 D4 ws3 h7 hI3 l4 D3 ws2 h6 hI2 a1 hL1 l3 D2 ws1 h5 hI1 a0 hL0 l2 D1 ws0 h4 hI0 l1 D0 h3 l0 h2 h1' h0 F0 N0
        obtain ⟨k', rfl⟩ : ∃ k', k = k' + 1 := ⟨k - 1, by omega⟩
        obtain ⟨e1, e2, e3⟩ := cut_turn lc ln hj a9 a5 a4 a6 en1 en
        rw [List.push_toArray, e1] at N0
        rw [e2] at hI3
        rw [e3] at hI0
        refine ⟨k', Nat.lt_succ_self _, h0, _, _, cs.take (ns.idxOf 1) ++ cs.drop (ns.idxOf 1 + 1), cutCounts ns (ns.idxOf 1), js ++ [cutPair cs ns.length (ns.idxOf 1)], ws3, ws0, jv ++ [.int (cutPair cs ns.length (ns.idxOf 1)) tk1], D4, D1, J, 0, 0, ej + 1, rfl, F0, rfl, rfl, mJ, fun q hq => N0 q ?mem, hI3, hI0, IntsAre.append hij (.cons _ _ .nil), ?l1, ?l2, by omega, by simp; omega, ?bd, ⟨by omega, by omega, by omega⟩, ?run⟩
        case mem =>
          rcases List.mem_cons.mp hq with rfl | hq
          · k_mem
          rcases List.mem_cons.mp hq with rfl | hq
          · k_mem
          rcases List.mem_cons.mp hq with rfl | hq
          · k_mem
          exact nomatch hq
        case l1 => simp; omega
        case l2 => simp only [cutCounts, List.length_append, List.length_take, List.length_drop, List.length_set]; omega
        case bd =>
          intro x hx
          rcases List.mem_append.mp hx with hx | hx
          · exact bc x (List.mem_of_mem_take hx)
          · exact bc x (List.mem_of_mem_drop hx)
        case run => rw [hcut, cutL, if_pos ⟨by omega, h1⟩]
      · rename_i hany
        have h1 : (1 : Int) ∉ ns := fun h => by
          rw [List.any_eq_true.mpr ⟨1, h, by simp⟩] at hany; cases hany
        have hc : cutOf ring = if ns = [1, 1, 1] then some js else none := by
          obtain ⟨k', rfl⟩ : ∃ k', k = k' + 1 := ⟨k - 1, by omega⟩
          rw [hcut, cutL, if_neg fun h => h1 h.2]
        k_steps
        · rename_i h1 F1 N1 l1 hns
          refine hret (.ref J) _ _ (stay F1) ?_
          rw [hc, if_pos hns]
          exact ⟨J, jv, ej, rfl, N1.get (by k_mem), hij, frA N1 (o := listOf (List.toArray jv) ej) (by k_mem)⟩
        · rename_i h1 F1 N1 l1 hns
          refine hret .none _ _ (stay F1) ?_
          rw [hc, if_neg hns]
end
end Mine
end
theorem Mine.freshC8 : True := by
  w_top off
  trivial
section -- C8
open PySem PySem.W PyProof.Rows PySem.Spec PySem.Calls
namespace Mine
section
local macro_rules | `(tactic| walk_at "idle") => `(tactic| fail)
local macro_rules | `(tactic| walk_at "idle") => `(tactic| fail)
local macro_rules | `(tactic| walk_at "idle") => `(tactic| fail)
local macro_rules | `(tactic| walk_at "eval IfExp") => `(tactic| ((with_reducible show wpAny _ _ (eval (Expr.IfExp _ (Expr.Constant _ _ _) _ _) _) _ _ _); k_dflt (first | refine ifA (by assumption) (by assumption) (by k_asm) (by k_asm) (by rfl) (by rfl) (by rfl) ?_ | refine ifB (by assumption) (by assumption) (by k_asm) (by k_asm) (by rfl) (by rfl) (by rfl) ?_); intro _ _))
local macro_rules | `(tactic| walk_at "pyIter ref") => `(tactic| (refine Hid.out ?_))
local macro_rules | `(tactic| walk_at "UnrEnd") => `(tactic| (refine Hid.out ?_))
theorem wrapAhead {v : Int} {n : Nat} (hl : 0 < n) (k0 : 0 ≤ v) : wrap (v - 1) n = ahead n v.toNat := by
  unfold wrap ahead
  split <;> split <;> omega
theorem ring_turn {ring nq1 nq : List Int} {x v t y d1 d2 c : Int} (hl : 0 < ring.length) (ekk : v = x % (ring.length : Int)) (k0 : 0 ≤ v) (et : t = x.fdiv 8 % 16) (ey : y = ring.getD (wrap (v - 1) ring.length) 0)
    (en1 : nq1 = ring.set (wrap (v - 1) ring.length) (y + d1)) (en : nq = nq1.set (wrap v nq1.length) (nq1.getD v.toNat 0 + d2)) (h1 : d1 = if t > 13 then 0 else 1) (h2 : d2 = if 11 < t ∧ t < 14 then 0 else 1) (h3 : c = if 7 < t ∧ t < 12 then t - 6 else 1) :
    nq.take v.toNat ++ [c] ++ nq.drop v.toNat = ringStep ring x := by
  have e8 : x.fdiv 8 = x / 8 := Int.fdiv_eq_ediv_of_nonneg _ (by decide)
  have hw := wrapAhead hl k0
  have hw2 : wrap v nq1.length = v.toNat := if_neg (Int.not_lt.mpr k0)
  rw [e8] at et
  rw [hw] at ey en1
  rw [hw2] at en
  unfold ringStep
  simp only
  rw [← ekk, ← et, ← h1, ← h2, ← h3, ← ey, ← en1, ← en]
theorem ringStep_length (ring : List Int) (x : Int) : (ringStep ring x).length = ring.length + 1 := by
  unfold ringStep
  simp only [List.length_append, List.length_take, List.length_drop, List.length_set, List.length_singleton]
  omega
theorem ringOf_snoc (ps : List Int) (x : Int) : ringOf (ps ++ [x]) = ringStep (ringOf ps) x := by simp [ringOf]
inductive RingInv (nums : List Int) (rg I : Addr) (vs : List Value) (er : Nat) (r : List Value) (m : Mp) (nw : List (Addr × Obj)) : Prop
  | intro (ps rs ring : List Int) (rv : List Value) (e : Nat) (R : Addr)
    (c1 : nums = ps ++ rs)
    (c2 : IntsAre r rs)
    (c3 : ring = ringOf ps)
    (c4 : m (Str.ofString "ring") = some (.ref R))
    (c5 : nw = [(R, listOf (List.toArray rv) e), (rg, listOf vs.toArray er)])
    (c6 : IntsAre rv ring)
    (c7 : ring.length = ps.length + 3)
    (c8 : @Ne Nat R rg)
    (c9 : @Ne Nat R I) : RingInv nums rg I vs er r m nw
set_option maxRecDepth 100000 in
set_option maxHeartbeats 8000000 in
theorem lawRing {w : World} {hb : Heap} {p : Program} {loose : List Str} {mean : ExcName → Option Value} {mg mb : Str → Option Value}
   {A : Around} {s : Shared} {Q E : Value → Shared → Prop} {rg : Addr} {vs : List Value} {er : Nat} {nums : List Int}
   (X : (hd.heap_39 w.params).In hb) (T : Top p loose mean mg mb hb) (st : hb.StaysIn s.heap) (hrg : hb.get? rg = none)
   (hdp : A.depth + 10 < recursionLimit) (hun : A.units + 200 < cLine) (hh : A.handled = none)
   (hl : s.heap.get? rg = some (listOf vs.toArray er)) (hi : IntsAre vs nums) (n4 : nums.length ≤ 4)
   (hret : ∀ D vs' c h' tk', s.heap.StaysIn h' → s.heap.get? D = none → h'.get? D = some (listOf (List.toArray vs') c) → IntsAre vs' (ringOf nums) → Q (.ref D) { s with heap := h', toks := tk' }) :
    wpAny (model prog0 w) A (call (.ref 100) [.ref rg]) Q E s := by
  revert X; unfold prog0; k_fill; intro X
  obtain ⟨hdl, dp, fr, gd, un⟩ := A
  obtain rfl : hdl = none := hh
  dsimp only at hdp hun
  have hn : ∀ q ∈ [(rg, listOf vs.toArray er)], s.heap.get? q.1 = some q.2 ∧ hb.get? q.1 = none := fun q hq => by
    rw [List.mem_singleton.mp hq]; exact ⟨hl, hrg⟩
  k_dflt ( refine' wpAny_call (enterX (by assumption) (by assumption) (by assumption) (by assumption) (by k_is) (by k_is) (by dsimp only; omega) (by exact BindsTo.of_eq rfl) (by exact locs rfl) ?_ (by decide) (by exact rfl) (by exact rfl) (by exact rfl)))
  intro g L' h' G S l F N X' T' st'
  try dsimp only
  try k_fold
  k_steps
  rename_i tk0 R h1 l1 h2 F2 N2
  refine ⟨?_⟩
  refine iter_listUnr (lo := listOf vs.toArray er) (vs := vs) (n := er) rfl F2 N2 (by k_mem) rfl rfl ?_
  intro I hI
  k_lt hI
  refine listInd (RingInv nums rg I vs er) ?done ?step _ _ _ ?init
  case init => exact ⟨[], nums, [1, 1, 1], _, 0, R, rfl, hi, rfl, rfl, rfl, .cons _ _ (.cons _ _ (.cons _ _ .nil)), rfl, by omega, by omega⟩
  case step =>
    rintro v r m nw ⟨ps, rs, ring, rv, e, R, hps, hir, hring, mR, rfl, hirv, lring, n1, n2⟩ it h3 tk3 hit F3 N3
    cases hir
    rename_i x tx rs hir
    have lps : ps.length ≤ 3 := by
      have := congrArg List.length hps
      simp at this; omega
    k_steps
    all_goals (
      rename (_ : Int) = _ % ((List.length _ : Nat) : Int) => ekk
      rename _ = Int.fdiv _ 8 % 16 => et
      rename _ = ring.getD _ 0 => ex
      rename _ = ring.set _ _ => en1
      rename (_ : List Int) = List.set _ _ _ => en
      rename Fr _ _ _ _ => F9
      rename News _ _ _ _ => N9
      rename IntsAre _ (_ ++ [_] ++ _) => hI9
      rw [ring_turn (by omega) ekk (by omega) et ex en1 en rfl rfl (by split <;> omega)] at hI9
      refine ⟨UnrEnd.intro F9 N9 [(_, listOf (List.toArray _) 0), (rg, listOf vs.toArray er)] ?sub ?off ⟨.tail _ (.head _), ps ++ [x], rs, ringStep ring x, _, 0, _, by rw [hps]; simp, hir, by rw [hring, ringOf_snoc], rfl, rfl, hI9, by rw [ringStep_length]; simp; omega, by omega, by omega⟩⟩
      case sub =>
        intro q hq
        rcases List.mem_cons.mp hq with rfl | hq
        · k_mem
        rcases List.mem_cons.mp hq with rfl | hq
        · k_mem
        rcases List.mem_cons.mp hq with rfl | hq
        · k_mem
        exact nomatch hq
      case off => exact List.forall_mem_cons.mpr ⟨neN (by dsimp only; omega), List.forall_mem_cons.mpr ⟨neN (by dsimp only; omega), fun _ h => nomatch h⟩⟩)
  case done =>
    rintro m nw ⟨ps, rs, ring, rv, e, R, hps, hir, hring, mR, rfl, hirv, lring, n1, n2⟩ h3 tk3 F3 N3
    k_steps
    cases hir
    rw [List.append_nil] at hps
    subst hps
    rw [hring] at hirv
    refine hret R rv e h3 tk3 (staysOf G F3 (fun q hq => N3 q (.tail _ hq)) fun q hq => (hn q hq).1) ?_ (N3.get (.head _)) hirv
    exact G.fresh (N3.fresh (.head _)) (nin1 n1)
end
end Mine
end
end
theorem Mine.freshC10 : True := by
  w_top off
  trivial
section -- C10
open PySem PySem.W PyProof.Rows PySem.Spec PySem.Calls
namespace Mine
section
local macro_rules | `(tactic| walk_at "idle") => `(tactic| fail)
local macro_rules | `(tactic| walk_at "idle") => `(tactic| fail)
local macro_rules | `(tactic| walk_at "idle") => `(tactic| fail)
local macro_rules | `(tactic| walk_at "idle") => `(tactic| fail)
local macro_rules | `(tactic| walk_at "idle") => `(tactic| fail)
local macro_rules | `(tactic| walk_at "idle") => `(tactic| fail)
local macro_rules | `(tactic| walk_at "eval Call") => `(tactic| k_fold)
local macro_rules | `(tactic| walk_at "eval BinOp") => `(tactic| k_fold)
local macro_rules | `(tactic| walk_at "eval Subscript") => `(tactic| k_fold)
local macro_rules | `(tactic| walk_at "execs cons") => `(tactic| (k_here; (try dsimp only); (try k_fold); (try k_gentoks); refine wpAny_execs_cons ?_))
local macro_rules | `(tactic| walk_at "call type:type") => `(tactic| ((with_reducible show wpAny _ _ (call _ [Value.bytes _ _]) _ _ _); refine call_type_of (Tx := "bytes") rfl (by decide +kernel) ?_))
set_option maxRecDepth 100000 in
set_option maxHeartbeats 8000000 in
theorem bufferC {w : World} {hb : Heap} {p : Program} {loose : List Str} {mean : ExcName → Option Value} {mg mb : Str → Option Value}
   {A : Around} {s : Shared} {Q E : Value → Shared → Prop} {b : Array UInt8} {t : Tok}
   (X : (hd.heap_39 w.params).In hb) (T : Top p loose mean mg mb hb) (st : hb.StaysIn s.heap)
   (hdp : A.depth + 10 < recursionLimit) (hun : A.units + 200 < cLine) (hh : A.handled = none)
   (hret : ∀ h' tk', s.heap.StaysIn h' → Q (.bytes b t) { s with heap := h', toks := tk' }) :
    wpAny (model prog0 w) A (call (.ref 63) [.bytes b t]) Q E s := by
  revert X; unfold prog0; k_fill; intro X
  obtain ⟨hdl, dp, fr, gd, un⟩ := A
  obtain rfl : hdl = none := hh
  dsimp only at hdp hun
  k_dflt ( refine' wpAny_call (enterX (news := []) (by assumption) (by assumption) (by assumption) (by exact fun _ h => nomatch h) (by k_is) (by k_is) (by dsimp only; omega) (by exact BindsTo.of_eq rfl) (by exact locs rfl) ?_ (by decide) (by exact rfl) (by exact rfl) (by exact rfl)))
  intro g L' h' G S l F N X' T' st'
  try dsimp only
  try k_fold
  k_steps
  exact hret _ _ (fun b o e => Fr.keep (by assumption) b o (G.stays b o e))
set_option maxRecDepth 100000 in
set_option maxHeartbeats 8000000 in
theorem truthC {w : World} {hb : Heap} {p : Program} {loose : List Str} {mean : ExcName → Option Value} {mg mb : Str → Option Value}
   {A : Around} {s : Shared} {Q E : Value → Shared → Prop}
   (X : (hd.heap_39 w.params).In hb) (T : Top p loose mean mg mb hb) (st : hb.StaysIn s.heap)
   (hdp : A.depth + 10 < recursionLimit) (hun : A.units + 200 < cLine) (hh : A.handled = none)
   (hret : ∀ h' tk', s.heap.StaysIn h' → Q (.bool false) { s with heap := h', toks := tk' }) :
    wpAny (model prog0 w) A (call (.ref 70) [.bool false]) Q E s := by
  revert X; unfold prog0; k_fill; intro X
  obtain ⟨hdl, dp, fr, gd, un⟩ := A
  obtain rfl : hdl = none := hh
  dsimp only at hdp hun
  k_dflt ( refine' wpAny_call (enterX (news := []) (by assumption) (by assumption) (by assumption) (by exact fun _ h => nomatch h) (by k_is) (by k_is) (by dsimp only; omega) (by exact BindsTo.of_eq rfl) (by exact locs rfl) ?_ (by decide) (by exact rfl) (by exact rfl) (by exact rfl)))
  intro g L' h' G S l F N X' T' st'
  try dsimp only
  try k_fold
  k_steps
  exact hret _ _ (fun b o e => Fr.keep (by assumption) b o (G.stays b o e))
theorem andMask {x : Int} (h : 0 ≤ x) (k : Nat) : Builtin.bitAnd x (2 ^ k - 1) = x % 2 ^ k := by
  obtain ⟨n, rfl⟩ := Int.eq_ofNat_of_zero_le h
  have e : ((2 : Int) ^ k - 1) = ((2 ^ k - 1 : Nat) : Int) := by
    have : 1 ≤ 2 ^ k := Nat.one_le_two_pow
    push_cast [this]
    rfl
  rw [e, bitAnd_nat, Nat.and_two_pow_sub_one_eq_mod]
  push_cast
  rfl
section
variable {w : World} {A : Around} {E : Value → Shared → Prop} {s : Shared} {a b : Int} {t u : Tok} {Q : Value → Shared → Prop}
theorem and63 (h0 : 0 ≤ a) (h : ∀ v, v = a % 64 → 0 ≤ v → v < 64 → Q (.int v s.toks) { s with toks := s.toks + 1 }) : wpAny (model prog0 w) A (binaryOp .BitAnd (.int a t) (.int 63 u)) Q E s :=
  and_int (h _ (andMask h0 6) (by rw [show (63 : Int) = 2 ^ 6 - 1 from rfl, andMask h0 6]; omega) (by rw [show (63 : Int) = 2 ^ 6 - 1 from rfl, andMask h0 6]; omega))
theorem andAll (h0 : 0 ≤ a) (h : ∀ v, v = a % 65536 → 0 ≤ v → v < 65536 → Q (.int v s.toks) { s with toks := s.toks + 1 }) : wpAny (model prog0 w) A (binaryOp .BitAnd (.int a t) (.int 65535 u)) Q E s :=
  and_int (h _ (andMask h0 16) (by rw [show (65535 : Int) = 2 ^ 16 - 1 from rfl, andMask h0 16]; omega) (by rw [show (65535 : Int) = 2 ^ 16 - 1 from rfl, andMask h0 16]; omega))
theorem and3 (h0 : 0 ≤ a) (h : ∀ v, v = a % 4 → 0 ≤ v → v < 4 → Q (.int v s.toks) { s with toks := s.toks + 1 }) : wpAny (model prog0 w) A (binaryOp .BitAnd (.int a t) (.int 3 u)) Q E s :=
  and_int (h _ (andMask h0 2) (by rw [show (3 : Int) = 2 ^ 2 - 1 from rfl, andMask h0 2]; omega) (by rw [show (3 : Int) = 2 ^ 2 - 1 from rfl, andMask h0 2]; omega))
theorem and15 (h0 : 0 ≤ a) (h : ∀ v, v = a % 16 → 0 ≤ v → v < 16 → Q (.int v s.toks) { s with toks := s.toks + 1 }) : wpAny (model prog0 w) A (binaryOp .BitAnd (.int a t) (.int 15 u)) Q E s :=
  and_int (h _ (andMask h0 4) (by rw [show (15 : Int) = 2 ^ 4 - 1 from rfl, andMask h0 4]; omega) (by rw [show (15 : Int) = 2 ^ 4 - 1 from rfl, andMask h0 4]; omega))
theorem or8 (h0 : 0 ≤ a) (hb : 0 ≤ b) (hb2 : b < 256) (h : ∀ v, v = a * 256 + b → Q (.int v s.toks) { s with toks := s.toks + 1 }) : wpAny (model prog0 w) A (binaryOp .BitOr (.int (a * 2 ^ 8) t) (.int b u)) Q E s := by
  refine or_int (h _ ?_)
  obtain ⟨n, rfl⟩ := Int.eq_ofNat_of_zero_le h0
  obtain ⟨c, rfl⟩ := Int.eq_ofNat_of_zero_le hb
  have e8 : (2 : Int) ^ 8 = 256 := by decide
  have e : ((n : Int) * 2 ^ 8) = ((n * 2 ^ 8 : Nat) : Int) := by rw [e8]; omega
  have hz : n * 2 ^ 8 &&& c = 0 := by
    apply Nat.eq_of_testBit_eq
    intro i
    rw [Nat.testBit_and, Nat.testBit_mul_two_pow]
    by_cases hi : 8 ≤ i
    · rw [Nat.testBit_lt_two_pow (x := c) (i := i) (Nat.lt_of_lt_of_le (show c < 2 ^ 8 by omega) (Nat.pow_le_pow_right (by decide) hi))]
      simp
    · simp [hi]
  rw [e, bitOr_and, bitAnd_nat, hz]
  omega
theorem lsh8 (h0 : 0 ≤ a) (h1 : a < 65536) (h : Q (.int (a * 2 ^ 8) s.toks) { s with toks := s.toks + 1 }) : wpAny (model prog0 w) A (binaryOp .LShift (.int a t) (.int 8 u)) Q E s :=
  lshift_int (by decide) (by
    have := bits_of_lt (m := 16) h0 (by omega)
    have e : (2 : Int) ^ 27 = 134217728 := by decide
    omega) h
theorem rshW {n : Int} (h0 : 0 ≤ n) (ha : 0 ≤ a) (h : ∀ v, v = a / 2 ^ n.toNat → 0 ≤ v → Q (.int v s.toks) { s with toks := s.toks + 1 }) : wpAny (model prog0 w) A (binaryOp .RShift (.int a t) (.int n u)) Q E s := by
  have e : a.fdiv (2 ^ n.toNat) = a / 2 ^ n.toNat := Int.fdiv_eq_ediv_of_nonneg _ (Int.pow_nonneg (by decide))
  exact rshift_int h0 (h _ e (by rw [e]; exact Int.ediv_nonneg ha (Int.pow_nonneg (by decide))))
theorem b64T_range {i : Int} (h0 : 0 ≤ i) (h1 : i < 64) : 0 ≤ b64T i ∧ b64T i < 256 := by
  unfold b64T
  split
  · omega
  · split
    · omega
    · split
      · omega
      · split <;> omega
theorem itemTab {x : List UInt8} {i : Int} {value slice : Expr} (hx : x.length = 64) (hx2 : ∀ j : Nat, j < 64 → (((x.getD j 0).toNat : Nat) : Int) = b64T j) (h0 : 0 ≤ i) (h1 : i < 64) (h : ∀ v, v = b64T i → 0 ≤ v → v < 256 → Q (.int v s.toks) { s with toks := s.toks + 1 })
    (hs : subscripted slice false (.bytes x.toArray t) (.int i u) = operate [.bytes x.toArray t, .int i u] (getItem (.bytes x.toArray t) (.int i u)) := by with_unfolding_all rfl)
    (ht : ∀ r, letTemporaryGo value (.bytes x.toArray t) r = pure () := by intro _; with_unfolding_all rfl) : wpAny (model prog0 w) A (subscriptTail value slice (.bytes x.toArray t) (.int i u)) Q E s := by
  refine bytes_item_K (k := b64T i) (by omega) h0 (by omega) ?_ (h _ rfl (b64T_range h0 h1).1 (b64T_range h0 h1).2) hs ht
  rw [hx2 i.toNat (by omega)]
  congr 1
  omega
theorem lshK {k : Nat} (h0 : 0 ≤ a) (h1 : a < 65536) (hk : k ≤ 10) (h : ∀ v, v = a * 2 ^ k → Q (.int v s.toks) { s with toks := s.toks + 1 }) : wpAny (model prog0 w) A (binaryOp .LShift (.int a t) (.int (k : Nat) u)) Q E s :=
  lshift_int (by omega) (by
    have := bits_of_lt (m := 16) h0 (by omega)
    have e : (2 : Int) ^ 27 = 134217728 := by decide
    omega) (h _ rfl)
end
theorem lsh4 {w : World} {A : Around} {E : Value → Shared → Prop} {s : Shared} {a : Int} {t u : Tok} {Q : Value → Shared → Prop} (h0 : 0 ≤ a) (h1 : a < 65536) (h : ∀ v, v = a * 16 → Q (.int v s.toks) { s with toks := s.toks + 1 }) : wpAny (model prog0 w) A (binaryOp .LShift (.int a t) (.int 4 u)) Q E s :=
  lshK (k := 4) h0 h1 (by decide) h
theorem lsh2 {w : World} {A : Around} {E : Value → Shared → Prop} {s : Shared} {a : Int} {t u : Tok} {Q : Value → Shared → Prop} (h0 : 0 ≤ a) (h1 : a < 65536) (h : ∀ v, v = a * 4 → Q (.int v s.toks) { s with toks := s.toks + 1 }) : wpAny (model prog0 w) A (binaryOp .LShift (.int a t) (.int 2 u)) Q E s :=
  lshK (k := 2) h0 h1 (by decide) h
local macro_rules | `(tactic| walk_at "pyIter bytes") => `(tactic| (refine Hid.out ?_))
local macro_rules | `(tactic| walk_at "UnrEnd") => `(tactic| (refine Hid.out ?_))
local macro_rules | `(tactic| walk_at "binaryOp BitAnd int int") => `(tactic| (first | (refine and63 (by omega) ?_; intro _ _ _ _) | (refine andAll (by omega) ?_; intro _ _ _ _) | (refine and3 (by omega) ?_; intro _ _ _ _) | (refine and15 (by omega) ?_; intro _ _ _ _)))
local macro_rules | `(tactic| walk_at "binaryOp RShift int int") => `(tactic| (refine rshW (by omega) (by omega) ?_; intro _ _ _))
local macro_rules | `(tactic| walk_at "subscriptTail") => `(tactic| ((with_reducible show wpAny _ _ (subscriptTail _ _ (Value.bytes _ _) (Value.int _ _)) _ _ _); k_dflt (refine itemTab (by rfl) (by decide) (by omega) (by omega) ?_); intro _ _ _ _))
local macro_rules | `(tactic| walk_at "binaryOp BitOr int int") => `(tactic| (refine or8 (by omega) (by omega) (by omega) ?_; intro _ _))
local macro_rules | `(tactic| walk_at "binaryOp LShift int int") => `(tactic| (first | (refine lsh8 (by omega) (by omega) ?_) | (refine lsh4 (by omega) (by omega) ?_; intro _ _) | (refine lsh2 (by omega) (by omega) ?_; intro _ _)))
local macro_rules | `(tactic| walk_at "call builtin:list.append") => `(tactic| (k_here; (with_reducible show wpAny _ _ (call (Value.builtin _) [Value.ref _, _]) _ _ _); k_dflt (refine' append_K (by k_asm) (by k_asm) (by k_upd) ?_ (by simp only [Array.size_push, List.size_toArray, sizeLine_eq]; omega); k_whole); intro h' F' N'; (try k_sweep)))
inductive B64Inv (O : Addr) (b : Array UInt8) (r : List Int) (m : Mp) (nw : List (Addr × Obj)) : Prop
  | intro (out : List Int) (ov : List Value) (e : Nat) (lb lc : Int) (t1 t2 : Tok)
    (c1 : m (Str.ofString "out") = some (.ref O))
    (c2 : m (Str.ofString "leftbits") = some (.int lb t1))
    (c3 : m (Str.ofString "leftchar") = some (.int lc t2))
    (c4 : m (Str.ofString "newline") = some (.bool false))
    (c5 : nw = [(O, listOf (List.toArray ov) e)])
    (c6 : IntsAre ov out)
    (c7 : (∀ x ∈ out, 0 ≤ x ∧ x < 256))
    (c8 : (lb = 0 ∨ lb = 2 ∨ lb = 4))
    (c9 : 0 ≤ lc)
    (c10 : lc < 65536)
    (c11 : out.length + 2 * r.length ≤ 50)
    (c12 : b64Of (KBw.bInts b) = b64F r lb lc out) : B64Inv O b r m nw
set_option maxRecDepth 100000 in
set_option maxHeartbeats 8000000 in
theorem b2a {w : World} {hb : Heap} {p : Program} {loose : List Str} {mean : ExcName → Option Value} {mg mb : Str → Option Value}
   {A : Around} {s : Shared} {Q E : Value → Shared → Prop} {b : Array UInt8} {t : Tok}
   (X : (hd.heap_39 w.params).In hb) (T : Top p loose mean mg mb hb) (st : hb.StaysIn s.heap)
   (hdp : A.depth + 20 < recursionLimit) (hun : A.units + 300 < cLine) (hh : A.handled = none) (hz : b.size ≤ 20)
   (hret : ∀ h' tk' c t', s.heap.StaysIn h' → KBw.bInts c = b64Of (KBw.bInts b) → Q (.bytes c t') { s with heap := h', toks := tk' }) :
    wpAny (model prog0 w) A (call (.ref 78) [.bytes b t] [(Str.ofString "newline", .bool false)]) Q E s := by
  revert X; unfold prog0; k_fill; intro X
  obtain ⟨hdl, dp, fr, gd, un⟩ := A
  obtain rfl : hdl = none := hh
  dsimp only at hdp hun
  k_dflt ( refine' wpAny_call (enterX (news := []) (by assumption) (by assumption) (by assumption) (by exact fun _ h => nomatch h) (by k_is) (by k_is) (by dsimp only; omega) (by exact BindsTo.of_eq rfl) (by exact locs rfl) ?_ (by decide) (by exact rfl) (by exact rfl) (by exact rfl)))
  intro g L' h' G S l F N X' T' st'
  try dsimp only
  try k_fold
  k_steps
  refine bufferC X T (fun b o e => F.keep b o (st' b o e)) (by simp only [depth_deeper]; omega) (by simp only [Around.deeper_units]; omega) rfl ?_
  intro h1 tk1 st1
  have F1 := frStays F st1
  have N1 := newsStays N st1
  clear F N
  k_steps
  rename_i h2 F2 N2
  refine truthC X T (fun b o e => F2.keep b o (st' b o e)) (by simp only [depth_deeper]; omega) (by simp only [Around.deeper_units]; omega) rfl ?_
  intro h3 tk3 st3
  have F3 := frStays F2 st3
  have N3 := newsStays N2 st3
  clear F2 N2
  k_steps
  rename_i h4 _ O h5 l5 h6 _ h7 _ h8 F8 N8
  refine ⟨?_⟩
  refine iter_bytesUnr (l := KBw.bInts b) rfl F8 N8 rfl ?_
  intro I hI
  k_lt hI
  refine bytesInd (B64Inv O b) ?done ?step _ _ _ ?init
  case init => exact ⟨[], [], 0, 0, 0, _, _, rfl, rfl, rfl, rfl, rfl, .nil, fun _ h => (nomatch h), .inl rfl, by decide, by decide, by rw [KBw.ints_length]; simp; omega, rfl⟩
  case step =>
    rintro c r m nw ⟨out, ov, e, lb, lc, t1, t2, mO, mB, mC, mN, rfl, hio, hob, hlb, c0, c1, lout, hF⟩ x0 x1 u it h9 tk9 F9 N9
    have hov := hio.length
    have lr : (c :: r).length = r.length + 1 := rfl
    have p2 : (2 : Int) ^ ((0 : Int) + 8 - 6).toNat = 4 := by decide
    have p4 : (2 : Int) ^ ((2 : Int) + 8 - 6).toNat = 16 := by decide
    have p6 : (2 : Int) ^ ((4 : Int) + 8 - 6).toNat = 64 := by decide
    have p0 : (2 : Int) ^ ((4 : Int) + 8 - 6 - 6).toNat = 1 := by decide
    rcases hlb with rfl | rfl | rfl
    · k_steps
      rename Fr _ _ _ _ => F10
      rename News _ _ _ _ => N10
      rename _ = lc * 256 + c => e4
      rename _ = _ % 65536 => e3
      rename _ = _ / _ => e2
      rename _ = _ % 64 => e1
      rename _ = b64T _ => e0
      rw [List.push_toArray] at N10
      subst e4 e3
      rw [e1, e2, p2] at e0
      subst e0
      have hF' := hF.trans (show b64F (c :: r) 0 lc out = _ from if_pos rfl)
      refine ⟨UnrEnd.intro F10 N10 [(O, listOf (List.toArray _) (e + 1))] (fun q hq => hq) (List.forall_mem_cons.mpr ⟨neN (by dsimp only; omega), fun _ h => nomatch h⟩) ⟨_, _, e + 1, 2, _, _, _, mO, rfl, rfl, mN, rfl, IntsAre.append hio (.cons _ _ .nil), ?_, .inr (.inl rfl), by omega, by omega, by (simp only [List.length_append, List.length_singleton]; omega), hF'⟩⟩
      intro x hx
      rcases List.mem_append.mp hx with hx | hx
      · exact hob x hx
      · rw [List.mem_singleton.mp hx]; exact b64T_range (by omega) (by omega)
    · k_steps
      rename Fr _ _ _ _ => F10
      rename News _ _ _ _ => N10
      rename _ = lc * 256 + c => e4
      rename _ = _ % 65536 => e3
      rename _ = _ / _ => e2
      rename _ = _ % 64 => e1
      rename _ = b64T _ => e0
      rw [List.push_toArray] at N10
      subst e4 e3
      rw [e1, e2, p4] at e0
      subst e0
      have hF' := hF.trans (show b64F (c :: r) 2 lc out = _ from (if_neg (by decide)).trans (if_pos rfl))
      refine ⟨UnrEnd.intro F10 N10 [(O, listOf (List.toArray _) (e + 1))] (fun q hq => hq) (List.forall_mem_cons.mpr ⟨neN (by dsimp only; omega), fun _ h => nomatch h⟩) ⟨_, _, e + 1, 4, _, _, _, mO, rfl, rfl, mN, rfl, IntsAre.append hio (.cons _ _ .nil), ?_, .inr (.inr rfl), by omega, by omega, by (simp only [List.length_append, List.length_singleton]; omega), hF'⟩⟩
      intro x hx
      rcases List.mem_append.mp hx with hx | hx
      · exact hob x hx
      · rw [List.mem_singleton.mp hx]; exact b64T_range (by omega) (by omega)
    · k_steps
      rename Fr _ _ _ _ => F10
      rename News _ _ _ _ => N10
      rename _ = lc * 256 + c => e4
      rename _ = _ % 65536 => e3
      rename _ = b64T _ => e0
      revert e0
      rename _ = b64T _ => f0
      rename _ = _ % 64 => e1
      revert e1
      rename _ = _ % 64 => f1
      rename _ = _ / _ => e2
      revert e2
      rename _ = _ / _ => f2
      intro e2 e1 e0
      rw [List.push_toArray, List.push_toArray, List.append_assoc] at N10
      subst e4 e3
      rw [e1, e2, p0, Int.ediv_one] at e0
      rw [f1, f2, p6] at f0
      subst e0 f0
      have hF' := hF.trans (show b64F (c :: r) 4 lc out = _ from (if_neg (by decide)).trans (if_neg (by decide)))
      refine ⟨UnrEnd.intro F10 N10 [(O, listOf (List.toArray _) (e + 1 + 1))] (fun q hq => hq) (List.forall_mem_cons.mpr ⟨neN (by dsimp only; omega), fun _ h => nomatch h⟩) ⟨_, _, e + 1 + 1, 0, _, _, _, mO, rfl, rfl, mN, rfl, IntsAre.append hio (.cons _ _ (.cons _ _ .nil)), ?_, .inl rfl, by omega, by omega, by (simp only [List.length_append, List.length_cons, List.length_nil]; omega), hF'⟩⟩
      intro x hx
      rcases List.mem_append.mp hx with hx | hx
      · exact hob x hx
      · rcases List.mem_cons.mp hx with rfl | hx
        · exact b64T_range (by omega) (by omega)
        · rw [List.mem_singleton.mp hx]; exact b64T_range (by omega) (by omega)
  case done =>
    rintro m nw ⟨out, ov, e, lb, lc, t1, t2, mO, mB, mC, mN, rfl, hio, hob, hlb, c0, c1, lout, hF⟩ h9 tk9 F9 N9
    have hov := hio.length
    rcases hlb with rfl | rfl | rfl
    · k_steps
      rename Fr _ _ _ _ => F10
      exact hret _ _ (byteArr out) _ (fun b o e => F10.keep b o (G.stays b o e)) (by rw [KBa.ints_make hob, hF]; rfl)
    · k_steps
      rename Fr _ _ _ _ => F10
      rename News _ _ _ _ => N10
      rename _ = lc % 4 => e2
      rename _ = _ * 16 => e1
      rename _ = b64T _ => e0
      rw [List.push_toArray, List.push_toArray, List.push_toArray, List.append_assoc, List.append_assoc] at N10
      rw [e1, e2] at e0
      subst e0
      have hob' : KBa.In (out ++ [b64T (lc % 4 * 16), 61, 61]) := fun x hx => by
        rcases List.mem_append.mp hx with hx | hx
        · exact hob x hx
        · rcases List.mem_cons.mp hx with rfl | hx
          · exact b64T_range (by omega) (by omega)
          · rcases List.mem_cons.mp hx with rfl | hx
            · decide
            · rw [List.mem_singleton.mp hx]; decide
      refine KBa.make_K F10 N10 rfl (News.isList N10 (.head _)) (IntsAre.append hio (.cons _ _ (.cons _ _ (.cons _ _ .nil)))) hob' (by simp only [List.length_append, List.length_cons, List.length_nil]; omega) ?_
      intro h11 t11 k11 F11 N11 _
      exact hret _ _ (byteArr _) _ (fun b o e => F11.keep b o (G.stays b o e)) (by rw [KBa.ints_make hob', hF]; rfl)
    · k_steps
      rename Fr _ _ _ _ => F10
      rename News _ _ _ _ => N10
      rename _ = lc % 16 => e2
      rename _ = _ * 4 => e1
      rename _ = b64T _ => e0
      rw [List.push_toArray, List.push_toArray, List.append_assoc] at N10
      rw [e1, e2] at e0
      subst e0
      have hob' : KBa.In (out ++ [b64T (lc % 16 * 4), 61]) := fun x hx => by
        rcases List.mem_append.mp hx with hx | hx
        · exact hob x hx
        · rcases List.mem_cons.mp hx with rfl | hx
          · exact b64T_range (by omega) (by omega)
          · rw [List.mem_singleton.mp hx]; decide
      refine KBa.make_K F10 N10 rfl (News.isList N10 (.head _)) (IntsAre.append hio (.cons _ _ (.cons _ _ .nil))) hob' (by simp only [List.length_append, List.length_cons, List.length_nil]; omega) ?_
      intro h11 t11 k11 F11 N11 _
      exact hret _ _ (byteArr _) _ (fun b o e => F11.keep b o (G.stays b o e)) (by rw [KBa.ints_make hob', hF]; rfl)
set_option maxRecDepth 100000 in
set_option maxHeartbeats 8000000 in
theorem b64enc {w : World} {hb : Heap} {p : Program} {loose : List Str} {mean : ExcName → Option Value} {mg mb : Str → Option Value}
   {A : Around} {s : Shared} {Q E : Value → Shared → Prop} {b : Array UInt8} {t : Tok}
   (X : (hd.heap_39 w.params).In hb) (T : Top p loose mean mg mb hb) (st : hb.StaysIn s.heap)
   (hdp : A.depth + 30 < recursionLimit) (hun : A.units + 400 < cLine) (hh : A.handled = none) (hz : b.size ≤ 20)
   (hret : ∀ h' tk' c t', s.heap.StaysIn h' → KBw.bInts c = b64Of (KBw.bInts b) → Q (.bytes c t') { s with heap := h', toks := tk' }) :
    wpAny (model prog0 w) A (call (.ref 86) [.bytes b t]) Q E s := by
  revert X; unfold prog0; k_fill; intro X
  obtain ⟨hdl, dp, fr, gd, un⟩ := A
  obtain rfl : hdl = none := hh
  dsimp only at hdp hun
  have Xs := X.keeps st
  k_dflt ( refine' wpAny_call (enterX (news := []) (by assumption) (by assumption) (by assumption) (by exact fun _ h => nomatch h) (by k_is) (by k_is) (by dsimp only; omega) (by exact binds_K (by assumption) rfl (by k_is) rfl rfl rfl) (by exact locs rfl) ?_ (by decide) (by exact rfl) (by exact rfl) (by exact rfl)))
  intro g L' h' G S l F N X' T' st'
  try dsimp only
  try k_fold
  k_steps
  refine b2a X T (fun b o e => F.keep b o (st' b o e)) (by simp only [depth_deeper]; omega) (by simp only [Around.deeper_units]; omega) rfl hz ?_
  intro h1 tk1 c t1 st1 hc
  have F1 := frStays F st1
  have N1 := newsStays N st1
  clear F N
  k_steps
  rename Fr _ _ _ _ => F10
  exact hret _ _ c _ (fun b o e => F10.keep b o (G.stays b o e)) hc
end
end Mine
end
end
end
section -- T1
open PySem PySem.W PyProof.Rows PySem.Spec PySem.Calls
namespace Mine
noncomputable def alpha : Str := Str.ofString "ABCDEFGHIJKLMNOPQRSTUVWXYZabcdefghijklmnopqrstuvwxyz0123456789+/"
theorem findAlpha : ∀ k : Nat, k < 64 → Txt.find alpha ⟨#[(b64T (k : Int)).toNat]⟩ = (k : Int) := by decide +kernel
theorem gluedL : ∀ (cs : List Nat) (acc : Array Nat), (cs.map fun c => (⟨#[c]⟩ : Str)).foldl (fun acc p => acc ++ (Str.ofString "").cps ++ p.cps) acc = acc ++ cs.toArray
  | [], acc => by simp
  | c :: r, acc => by
    rw [List.map_cons, List.foldl_cons, gluedL r]
    have e : (Str.ofString "").cps = #[] := rfl
    rw [e]
    apply Array.toList_inj.mp
    simp
theorem joinOne (cs : List Nat) : Txt.join (Str.ofString "") (cs.map fun c => (⟨#[c]⟩ : Str)) = ⟨cs.toArray⟩ := by
  show (⟨_⟩ : Str) = ⟨_⟩
  congr 1
  cases cs with
  | nil => rfl
  | cons c r =>
    show ((r.map fun c => (⟨#[c]⟩ : Str)).foldl _ #[c]) = _
    rw [gluedL]
    apply Array.toList_inj.mp
    simp
theorem sliceTo {x : Str} {n : Nat} (h : n ≤ x.length) : Txt.slice x none (some (n : Int)) = ⟨(x.cps.toList.take n).toArray⟩ := by
  have := eq_of_beq (slice_closes_toL (x := x) (j := (n : Int)) (by omega) (by omega))
  rw [this]
  simp
theorem pairedStrs {vs ys : List Value} {ks : List Int} (h : IntsAre vs ks) (p : Paired (fun v y : Value => ∃ c t t', v = .int c t ∧ y = .str ⟨#[c.toNat]⟩ t') vs ys) : StrsAre ys ((ks.map Int.toNat).map fun c => (⟨#[c]⟩ : Str)) := by
  induction h generalizing ys with
  | nil => cases p; exact .nil
  | cons k t h ih =>
    cases p with
    | cons e p =>
      obtain ⟨k', t1, t2, e1, e2⟩ := e
      cases e1
      subst e2
      exact .cons _ t2 (ih p)
end Mine
end
theorem Mine.freshC11 : True := by
  w_top off
  trivial
section -- C11
open PySem PySem.W PyProof.Rows PySem.Spec PySem.Calls
namespace Mine
section
local macro_rules | `(tactic| walk_at "idle") => `(tactic| fail)
local macro_rules | `(tactic| walk_at "idle") => `(tactic| fail)
local macro_rules | `(tactic| walk_at "idle") => `(tactic| fail)
local macro_rules | `(tactic| walk_at "execs cons") => `(tactic| (k_here; (try dsimp only); (try k_fold); (try k_gentoks); refine wpAny_execs_cons ?_; k_fold))
local macro_rules | `(tactic| walk_at "pyIter ref") => `(tactic| (refine Hid.out ?_))
local macro_rules | `(tactic| walk_at "UnrEnd") => `(tactic| (refine Hid.out ?_))
local macro_rules | `(tactic| walk_at "eval Name") => `(tactic| (k_here; k_dflt (refine' ldLoc (by k_asm) (by assumption) ?_; k_whole)))
section
variable {w : World} {A : Around} {E : Value → Shared → Prop} {s : Shared} {a b : Int} {t u : Tok} {Q : Value → Shared → Prop}
theorem mulLit (hm : Builtin.Int.intBits a ≤ 64) (h : ∀ v, v = a * b → Q (.int v s.toks) { s with toks := s.toks + 1 }) : wpAny (model prog0 w) A (binaryOp .Mult (.int a t) (.int b u)) Q E s := mul_int (h _ rfl) (IntMulOk.of_left hm)
theorem mulRt (h0 : 0 ≤ b) (h1 : b < 1152921504606846976) (h : ∀ v, v = a * b → Q (.int v s.toks) { s with toks := s.toks + 1 }) : wpAny (model prog0 w) A (binaryOp .Mult (.int a t) (.int b u)) Q E s :=
  mul_int (h _ rfl) (IntMulOk.of_right (Nat.le_trans (bits_of_lt (m := 60) h0 (by omega)) (by decide)))
theorem pow2 {n : Int} (h0 : 0 ≤ n) (h1 : n ≤ 6) (h : ∀ v, v = 2 ^ n.toNat → 1 ≤ v → v ≤ 64 → Q (.int v s.toks) { s with toks := s.toks + 1 }) : wpAny (model prog0 w) A (binaryOp .Pow (.int 2 t) (.int n u)) Q E s := by
  have e : (2 : Int) ^ n.toNat ≤ 2 ^ 6 := two_pow_le (by omega)
  have e1 := two_pow_pos n.toNat
  exact pow_int_small h0 (by omega) (by decide) (h _ rfl (by omega) (by omega))
theorem div8 (h : ∀ v, v = a / 8 → Q (.int v s.toks) { s with toks := s.toks + 1 }) : wpAny (model prog0 w) A (binaryOp .FloorDiv (.int a t) (.int 8 u)) Q E s :=
  floordiv_int (by decide) (h _ (Int.fdiv_eq_ediv_of_nonneg _ (by decide))) (.inl (PyProof.noPylong_small (by decide)))
end
local macro_rules | `(tactic| walk_at "binaryOp Mult int int") => `(tactic| (first | (refine mulLit (by decide) ?_; intro _ _) | (refine mulRt (by omega) (by omega) ?_; intro _ _)))
local macro_rules | `(tactic| walk_at "call builtin:str.join") => `(tactic| (refine Hid.out ?_))
local macro_rules | `(tactic| walk_at "pyIter str") => `(tactic| (refine Hid.out ?_))
local macro_rules | `(tactic| walk_at "subscriptTail Name Slice str ref") => `(tactic| ((with_reducible show wpAny _ _ (subscriptTail _ (Expr.Slice none (some _) none _) _ _) _ _ _); k_dflt (refine slice_strN_ns (hsz := by assumption) (by k_asm) (by k_asm) ?_); intro _ _ _ _ _))
local macro_rules | `(tactic| walk_at "eval ListComp") => `(tactic| (refine Hid.out ?_))
local macro_rules | `(tactic| walk_at "binaryOp Pow int int") => `(tactic| (refine pow2 (by omega) (by omega) ?_; intro _ _ _ _))
local macro_rules | `(tactic| walk_at "binaryOp FloorDiv int int") => `(tactic| (refine div8 ?_; intro _ _))
theorem numOf_snoc (ps : List Int) (x : Int) : numOf (ps ++ [x]) = 64 * numOf ps + x := by simp [numOf]
local macro_rules | `(tactic| walk_at "call type:range") => `(tactic| ((with_reducible show wpAny _ _ (call _ [Value.int _ _, Value.int _ _, Value.int _ _]) _ _ _); k_dflt (refine range3_rows (by k_asm) (by k_asm) (by decide) ?_ (.inl (PyProof.noPylong_small (by decide)))); intro _ _ _ _ _ _ _ _ _))
theorem intsOfAt : ∀ (vs : List Value) (f : Nat → Int), (∀ (j : Nat) (v : Value), vs[j]? = some v → ∃ t, v = .int (f j) t) → IntsAre vs ((List.range vs.length).map f)
  | [], _, _ => .nil
  | v :: vs, f, h => by
    obtain ⟨t, rfl⟩ := h 0 v rfl
    rw [List.length_cons, List.range_succ_eq_map, List.map_cons, List.map_map]
    exact .cons _ t (intsOfAt vs (fun j => f (j + 1)) fun j v hv => h (j + 1) v (by simpa using hv))
theorem pairedInts {f : Int → Int} {vs ys : List Value} {ks : List Int} (h : IntsAre vs ks) (p : Paired (fun v y : Value => ∃ k t t', v = .int k t ∧ y = .int (f k) t') vs ys) : IntsAre ys (ks.map f) := by
  induction h generalizing ys with
  | nil => cases p; exact .nil
  | cons k t h ih =>
    cases p with
    | cons e p =>
      obtain ⟨k', t1, t2, e1, e2⟩ := e
      cases e1
      subst e2
      exact .cons _ t2 (ih p)
theorem pairedIdx : ∀ (ring : List Int) (vs ys : List Value), vs.length = ring.length → (∀ (j : Nat) (v : Value), vs[j]? = some v → ∃ c u, ((ring.map b64T).map Int.toNat)[j]? = some c ∧ v = .str ⟨#[c]⟩ u) → (∀ e ∈ ring, 0 ≤ e ∧ e < 64) →
    Paired (fun v y : Value => ∃ c t t', v = .str ⟨#[c]⟩ t ∧ y = .int (Txt.find alpha ⟨#[c]⟩) t') vs ys → IntsAre ys ring := by
  intro ring
  induction ring with
  | nil =>
    intro vs ys hl _ _ p
    cases p with
    | nil => exact .nil
    | cons _ _ => simp at hl
  | cons e ring ih =>
    intro vs ys hl hP hr p
    cases p with
    | nil => simp at hl
    | cons q p =>
      obtain ⟨c, t, t', e1, e2⟩ := q
      obtain ⟨c', u, hc, ev⟩ := hP 0 _ rfl
      subst ev
      cases e1
      subst e2
      have hc2 : (b64T e).toNat = c := by simpa using hc
      have he := hr e (.head _)
      have hf := findAlpha e.toNat (by omega)
      rw [show ((e.toNat : Nat) : Int) = e by omega, hc2] at hf
      rw [hf]
      exact .cons e t' (ih _ _ (by simpa using hl) (fun j v hv => by simpa using hP (j + 1) v (by simpa using hv)) (fun x hx => hr x (.tail _ hx)) p)
theorem b64F_len : ∀ (r : List Int) (lb lc : Int) (out : List Int), (b64F r lb lc out).length ≤ out.length + 2 * r.length + 3
  | [], lb, lc, out => by
    show (if _ then _ else _ : List Int).length ≤ _
    split
    · simp
    · split <;> simp
  | b :: r, lb, lc, out => by
    show (if _ then _ else _ : List Int).length ≤ _
    have e : (b :: r).length = r.length + 1 := rfl
    split
    · have := b64F_len r 2 ((lc * 256 + b) % 65536) (out ++ [b64T ((lc * 256 + b) % 65536 / 4 % 64)])
      rw [List.length_append, List.length_singleton] at this
      omega
    · split
      · have := b64F_len r 4 ((lc * 256 + b) % 65536) (out ++ [b64T ((lc * 256 + b) % 65536 / 16 % 64)])
        rw [List.length_append, List.length_singleton] at this
        omega
      · have := b64F_len r 0 ((lc * 256 + b) % 65536) (out ++ [b64T ((lc * 256 + b) % 65536 / 64 % 64), b64T ((lc * 256 + b) % 65536 % 64)])
        rw [List.length_append, List.length_cons, List.length_singleton] at this
        omega
theorem b64_len (l : List Int) : (b64Of l).length ≤ 2 * l.length + 3 := by
  have := b64F_len l 0 0 []
  rw [List.length_nil, Nat.zero_add] at this
  exact this
theorem range_down {sz : Int} (h : 3 ≤ sz ∧ sz ≤ 6) : Builtin.Range.small (sz - 1) (-1) (-1) = true ∧ Builtin.Range.rangeSize (sz - 1) (-1) (-1) = ((sz.toNat : Nat) : Int) := by
  have : sz = 3 ∨ sz = 4 ∨ sz = 5 ∨ sz = 6 := by omega
  rcases this with rfl | rfl | rfl | rfl <;> exact ⟨by decide, by decide⟩
theorem pow256 {w : World} {A : Around} {E : Value → Shared → Prop} {s : Shared} {t u : Tok} {Q : Value → Shared → Prop} {n : Int} (h0 : 0 ≤ n) (h1 : n ≤ 5) (h : ∀ v, v = 256 ^ n.toNat → 1 ≤ v → v < 1152921504606846976 → Q (.int v s.toks) { s with toks := s.toks + 1 }) : wpAny (model prog0 w) A (binaryOp .Pow (.int 256 t) (.int n u)) Q E s := by
  have : n = 0 ∨ n = 1 ∨ n = 2 ∨ n = 3 ∨ n = 4 ∨ n = 5 := by omega
  have e : 1 ≤ (256 : Int) ^ n.toNat ∧ (256 : Int) ^ n.toNat < 1152921504606846976 := by
    rcases this with rfl | rfl | rfl | rfl | rfl | rfl <;> decide
  exact pow_int_small h0 (by omega) (by decide) (h _ rfl e.1 e.2)
theorem divPow {w : World} {A : Around} {E : Value → Shared → Prop} {s : Shared} {t u : Tok} {Q : Value → Shared → Prop} {a b : Int} (h0 : 1 ≤ b) (h1 : b < 1152921504606846976) (h : ∀ v, v = a / b → Q (.int v s.toks) { s with toks := s.toks + 1 }) : wpAny (model prog0 w) A (binaryOp .FloorDiv (.int a t) (.int b u)) Q E s :=
  floordiv_int (by omega) (h _ (Int.fdiv_eq_ediv_of_nonneg _ (by omega))) (.inl (PyProof.noPylong_of_log2 (by
    have h2 : b.natAbs < 2 ^ 60 := by omega
    have : b.natAbs.log2 < 60 := (Nat.log2_lt (by omega)).mpr h2
    omega)))
theorem getL_of' {g h : Heap} {L a : Addr} {m : Mp} (F : Fr g L h m) (e : h.get? a = none) : g.get? a = none ∧ a ≠ L := by
  refine ⟨?_, fun q => ?_⟩
  · cases q : g.get? a with
    | none => rfl
    | some o => rw [F.keep _ _ q] at e; cases e
  · obtain ⟨o, _, _, e', _⟩ := F.ns
    rw [q] at e; rw [e] at e'; cases e'
theorem keepsSelf {s : Shared} {tk : Nat} : Keeps s { s with toks := tk } := ⟨s.heap, tk, rfl, fun _ _ e => e⟩
inductive NumInv (ring : List Int) (rg L' : Addr) (vs : List Value) (er : Nat) (oA : Obj) (r : List Value) (m : Mp) (nw : List (Addr × Obj)) : Prop
  | intro (ps rs : List Int) (oN : Obj) (tN : Tok)
    (c1 : ring = ps ++ rs)
    (c2 : IntsAre r rs)
    (c3 : m (Str.ofString "ring") = some (.ref rg))
    (c4 : oN.data = .cell (some (.int (numOf ps) tN)))
    (c5 : nw = [(L' + 1 + 1, oN), (L' + 1, oA), (rg, listOf vs.toArray er)]) : NumInv ring rg L' vs er oA r m nw
set_option maxRecDepth 100000 in
set_option maxHeartbeats 8000000 in
theorem lawRead {w : World} {hb : Heap} {p : Program} {loose : List Str} {mean : ExcName → Option Value} {mg mb : Str → Option Value}
   {A : Around} {s : Shared} {Q E : Value → Shared → Prop} {rg : Addr} {vs : List Value} {er : Nat} {ring : List Int}
   (X : (hd.heap_39 w.params).In hb) (T : Top p loose mean mg mb hb) (st : hb.StaysIn s.heap) (hrg : hb.get? rg = none)
   (hdp : A.depth + 50 < recursionLimit) (hun : A.units + 600 < cLine) (hh : A.handled = none)
   (hl : s.heap.get? rg = some (listOf vs.toArray er)) (hi : IntsAre vs ring) (n4 : 4 ≤ ring.length) (n7 : ring.length ≤ 7) (hr : ∀ e ∈ ring, 0 ≤ e ∧ e < 64)
   (hret : ∀ D vs' c h' tk', s.heap.StaysIn h' → s.heap.get? D = none → h'.get? D = some (listOf (List.toArray vs') c) → IntsAre vs' ring → Q (.ref D) { s with heap := h', toks := tk' }) :
    wpAny (model prog0 w) A (call (.ref 105) [.ref rg]) Q E s := by
  revert X; unfold prog0; k_fill; intro X
  obtain ⟨hdl, dp, fr, gd, un⟩ := A
  obtain rfl : hdl = none := hh
  dsimp only at hdp hun
  have hn : ∀ q ∈ [(rg, listOf vs.toArray er)], s.heap.get? q.1 = some q.2 ∧ hb.get? q.1 = none := fun q hq => by
    rw [List.mem_singleton.mp hq]; exact ⟨hl, hrg⟩
  k_dflt ( refine' wpAny_call (enterC (by assumption) (by assumption) (by assumption) (by assumption) (by k_is) (by k_is) (by dsimp only; omega) (by exact BindsTo.of_eq rfl) (by exact rfl) (by decide +kernel) ?_ (by exact rfl) (by exact rfl) (by exact rfl)))
  intro g L' h' tk' cells' G S l F N Y' X' T' st' l1
  k_lt l1
  ((try k_fold); (rename CellsAre _ _ _ => Y'); k_cells Y'; (rename News _ _ _ _ => N'); (try simp only [List.cons_append, List.nil_append] at N'); (try dsimp only); (try k_fold))
  k_steps
  rename_i o0 o1 d0 d1 _ _ h1 oA dA _ _ _ _ _ h2 oN F2 N2 dN
  clear d0 d1
  refine ⟨?_⟩
  refine iter_listUnr (lo := listOf vs.toArray er) (vs := vs) (n := er) rfl F2 N2 (by k_mem) rfl rfl ?_
  intro I hI
  k_lt hI
  refine listInd (NumInv ring rg L' vs er oA) ?done ?step _ _ _ ?init
  case init => exact ⟨[], ring, oN, _, rfl, hi, rfl, dN, rfl⟩
  case step =>
    rintro v r m nw ⟨ps, rs, oN, tN, hps, hir, mR, dN, rfl⟩ it h3 tk3 hit F3 N3
    cases hir
    rename_i x tx rs hir
    k_steps
    rename_i v ev h4 o4 F4 N4 d4
    refine ⟨UnrEnd.intro F4 N4 [(L' + 1 + 1, o4), (L' + 1, oA), (rg, listOf vs.toArray er)] (fun q hq => hq) (List.forall_mem_cons.mpr ⟨neN (by dsimp only; omega), List.forall_mem_cons.mpr ⟨neN (by dsimp only; omega), List.forall_mem_cons.mpr ⟨neN (by dsimp only; omega), fun _ h => nomatch h⟩⟩⟩)
      ⟨by k_mem, ps ++ [x], rs, o4, _, by rw [hps]; simp, hir, mR, by rw [numOf_snoc, ← ev]; exact d4, rfl⟩⟩
  case done =>
    rintro m nw ⟨ps, rs, oN, tN, hps, hir, mR, dN, rfl⟩ h3 tk3 F3 N3
    cases hir
    rw [List.append_nil] at hps
    subst hps
    k_steps
    rename_i v5 e5 sz esz h4 tk4 _ _ v3 e3 v2 e2 pw epw pw1 pw2 nn enn h5 oN5 F5 N5 d5
    have sz3 : 3 ≤ sz ∧ sz ≤ 6 := by omega
    refine ⟨?_⟩
    refine wpAny_ListComp_free (cl := [(Str.ofString "number", L' + 1 + 1)]) (fun _ => true) (fun v y => ∃ k t t', v = .int k t ∧ y = .int (nn / 256 ^ k.toNat % 256) t') rfl (by decide) rfl (by decide) rfl ?_
    k_steps
    rename_i h6 tk6 t6 u6 v6 hrr F6 N6 keep6
    have rd := range_down sz3
    refine ⟨?_⟩
    refine wpAny_pyIter_range hrr rd.1 ?_
    have hcell : (h6.push { cls := .type "range_iterator", data := .fields #[rawInt (sz - 1), rawInt (Builtin.Range.rangeSize (sz - 1) (-1) (-1)), rawInt (-1)] }).get? (L' + 1 + 1) = some oN5 := Heap.get?_push_of_some _ (N6.get (.head _))
    have hlt6 : L' + 1 + 1 < h6.objs.size := Heap.lt_size (N6.get (.head _))
    refine ⟨_, [h6.objs.size], [h6.objs.size], sz.toNat, _, _, rfl, (Walks.range rfl h6.objs.size (sz - 1) (-1) sz.toNat).bound, by rw [sizeLine_eq]; omega, ?st0, ?fp, ⟨?tests, ?elt⟩, ?fin⟩
    case st0 =>
      show Heap.get? _ _ = _
      rw [rd.2]
      simpa using Heap.get?_push_size h6 (o := { cls := .type "range_iterator", data := .fields #[rawInt (sz - 1), rawInt ((sz.toNat : Nat) : Int), rawInt (-1)] }) rfl
    case fp =>
      intro b hb
      rw [List.mem_singleton.mp hb]
      show h6.objs.size < (h6.push _).objs.size
      rw [Heap.size_push]; exact Nat.lt_succ_self _
    case tests => exact fun C i v s3 m3 E' _ _ _ _ _ _ => wpAny_pure ⟨rfl, keepsSelf⟩
    case elt =>
      rintro C i v s3 m3 E' hC ⟨hi3, t, rfl⟩ _ hns hm keep htk
      have hc3 : s3.heap.IsCell (L' + 1 + 1) (some (.int nn _)) := ⟨oN5, keep _ _ (nin1 (by omega)) hcell, d5⟩
      refine wpAny_BinOp ?_
      refine wpAny_BinOp ?_
      refine ldCellK rfl hc3 ?_
      refine wpAny_BinOp ?_
      refine wpAny_Constant_int ?_
      refine ldVarK hns hm ?_
      refine pow256 (by omega) (by omega) ?_
      intro pv epv p1 p2
      refine divPow p1 p2 ?_
      intro qv eqv
      refine wpAny_Constant_int ?_
      refine modH (by decide) ?_
      intro rv erv _ _
      exact ⟨⟨_, t, _, rfl, by rw [erv, eqv, epv]⟩, keepsSelf⟩
    case fin =>
      intro D h7 tk7 ys vs7 hD hl7 hp7 hn7 hP7 pr7 k7
      obtain ⟨c7, e7⟩ := hp7
      have st7 : h6.StaysIn h7 := fun b o e => k7 b o (nin1 (Nat.ne_of_lt (Heap.lt_size e))) (Heap.get?_push_of_some _ e)
      have hD6 : h6.get? D = none := by
        cases q : h6.get? D with
        | none => rfl
        | some o => rw [Heap.get?_push_of_some _ q] at hD; cases hD
      have hv7 := intsOfAt vs7 (fun j => sz - 1 + (j : Int) * (-1)) fun j v hv => (hP7 j v hv).2
      rw [show vs7.filter (fun _ => true) = vs7 by simp] at pr7
      have hi7 := pairedInts (f := fun k => nn / 256 ^ k.toNat % 256) hv7 pr7
      rw [hn7] at hi7
      have F7 := frStays F6 st7
      have gD := getL_of' F6 hD6
      have N7 := newsOne (newsStays N6 st7) e7 gD.2 gD.1
      rw [← Array.toArray_toList (xs := ys)] at N7
      generalize hoct : List.map (fun k : Int => nn / 256 ^ k.toNat % 256) (List.map (fun j : Nat => sz - 1 + (j : Int) * (-1)) (List.range sz.toNat)) = octs at *
      clear F6 N6 F5 N5
      have hob : KBa.In octs := fun x hx => by
        rw [← hoct] at hx
        obtain ⟨k, _, rfl⟩ := List.mem_map.mp hx
        exact ⟨Int.emod_nonneg _ (by decide), Int.emod_lt_of_pos _ (by decide)⟩
      have lo7 : octs.length = sz.toNat := by rw [← hoct]; simp
      k_steps
      rename Fr _ _ _ _ => F9
      rename News _ _ _ _ => N9
      refine ⟨?_⟩
      refine wpAny_ListComp_free (cl := []) (fun _ => true) (fun v y => ∃ c t t', v = .int c t ∧ y = .str ⟨#[c.toNat]⟩ t') rfl (by decide) rfl (by decide) rfl ?_
      k_steps
      rename Fr _ _ _ _ => F9
      rename News _ _ _ _ => N9
      refine b64enc X T (fun b o e => F9.keep b o (st' b o e)) (by simp only [depth_deeper]; omega) (by simp only [Around.deeper_units]; omega) rfl (by rw [byteArr_size]; omega) ?_
      intro h10 tk10 bs tb st10 hbs
      rw [KBa.ints_make hob] at hbs
      have F10 := frStays F9 st10
      have N10 := newsStays N9 st10
      clear F9 N9
      refine KBw.pyIter_bytes ?_
      have hlt10 : L' < h10.objs.size := F10.ns.lt
      refine ⟨_, [h10.objs.size], [h10.objs.size], bs.size, _, _, rfl, KBw.walks rfl h10.objs.size bs tb, ?sz1, ?st1, ?fp1, ⟨?tests1, ?elt1⟩, ?fin1⟩
      case sz1 =>
        have := b64_len octs
        rw [← hbs, KBw.ints_length] at this
        rw [sizeLine_eq]
        omega
      case st1 => exact ⟨_, Heap.get?_push_size _ rfl, rfl, rfl⟩
      case fp1 =>
        intro b hb
        rw [List.mem_singleton.mp hb]
        show h10.objs.size < (h10.push _).objs.size
        rw [Heap.size_push]; exact Nat.lt_succ_self _
      case tests1 => exact fun C i v s3 m3 E' _ _ _ _ _ _ => wpAny_pure ⟨rfl, keepsSelf⟩
      case elt1 =>
        rintro C i v s3 m3 E' hC ⟨c, u, hc, rfl⟩ _ hns hm keep htk
        have G3 : h10.StaysIn s3.heap := fun b o e => keep b o (nin1 (Nat.ne_of_lt (Heap.lt_size e))) (Heap.get?_push_of_some _ e)
        have F3 := frStays F10 G3
        iterate 5 (first | walk1 | (dsimp only; walk1))
        refine ldVarK hns hm ?_
        iterate 1 (first | walk1 | (dsimp only; walk1))
        refine chr_of_range (by omega) (by have := c.toNat_lt; omega) ?_
        exact ⟨⟨_, u, _, rfl, rfl⟩, keepsSelf⟩
      case fin1 =>
        intro D2 h11 tk11 ys2 vs11 hD2 hl11 hp11 hn11 hP11 pr11 k11
        obtain ⟨c11, e11⟩ := hp11
        have st11 : h10.StaysIn h11 := fun b o e => k11 b o (nin1 (Nat.ne_of_lt (Heap.lt_size e))) (Heap.get?_push_of_some _ e)
        have hD10 : h10.get? D2 = none := by
          cases q : h10.get? D2 with
          | none => rfl
          | some o => rw [Heap.get?_push_of_some _ q] at hD2; cases hD2
        have hv11 := intsOfAt vs11 (fun j => (KBw.bInts bs).getD j 0) fun j v hv => by
          obtain ⟨c, u, hc, rfl⟩ := hP11 j v hv
          exact ⟨u, by rw [List.getD, KBw.ints_get hc]; rfl⟩
        rw [show vs11.filter (fun _ => true) = vs11 by simp] at pr11
        have hs11 := pairedStrs hv11 pr11
        have eb : (List.range vs11.length).map (fun j => (KBw.bInts bs).getD j 0) = KBw.bInts bs := by
          rw [hn11, ← KBw.ints_length]
          exact List.ext_getElem (by simp) fun i h1 h2 => by simp [List.getD, List.getElem?_eq_getElem h2]
        rw [eb, hbs] at hs11
        have rm := readMath (sz := sz) (pw := pw) (nn := nn) n4 n7 (fun e he => hr e he) (by rw [esz, e5]) (by rw [epw, e3, e2]) enn
        rw [hoct] at rm
        have F11 := frStays F10 st11
        have gD2 := getL_of' F10 hD10
        have N11 := newsOne (newsStays N10 st11) e11 gD2.2 gD2.1
        rw [← Array.toArray_toList (xs := ys2)] at N11
        generalize hsg : b64Of octs = sg at *
        have lsg : sg.length ≤ 50 := by
          have := b64_len octs
          rw [hsg] at this
          omega
        clear F10 N10
        k_steps
        rename Fr _ _ _ _ => F12
        rename News _ _ _ _ => N12
        refine ⟨?_⟩
        refine join_listW (News.isList N12 (.head _)) hs11 (by decide) ?jw ?_
        case jw =>
          rw [List.map_map, List.length_map]
          have : ∀ l : List Nat, (List.map ((fun x : Str => x.length) ∘ fun c => (⟨#[c]⟩ : Str)) l).sum = l.length := fun l => by
            induction l with
            | nil => rfl
            | cons a r ih => rw [List.map_cons, List.sum_cons, ih, List.length_cons, Nat.add_comm]; rfl
          rw [this]
          rw [List.length_map]
          omega
        intro t12 k12
        rw [joinOne]
        have ltx : (⟨(List.map Int.toNat sg).toArray⟩ : Str).length = sg.length := by
          show (List.map Int.toNat sg).toArray.size = _
          rw [List.size_toArray, List.length_map]
        have ecs : (⟨(List.map Int.toNat sg).toArray⟩ : Str).cps.toList = sg.map Int.toNat := rfl
        generalize (⟨(List.map Int.toNat sg).toArray⟩ : Str) = tx at *
        have ltx2 : tx.length ≤ sizeLine := by rw [sizeLine_eq]; omega
        k_steps
        rename Fr _ _ _ _ => F13
        rename News _ _ _ _ => N13
        refine ⟨?_⟩
        refine wpAny_ListComp_free (cl := [(Str.ofString "alphabet", L' + 1)]) (fun _ => true) (fun v y => ∃ c t t', v = .str ⟨#[c]⟩ t ∧ y = .int (Txt.find alpha ⟨#[c]⟩) t') rfl (by decide) rfl (by decide) rfl ?_
        k_steps
        rename Fr _ _ _ _ => F14
        rename News _ _ _ _ => N14
        have hrs : ring.length ≤ sg.length := by
          have := congrArg List.length rm
          rw [List.length_take, List.length_map] at this
          omega
        have ecs2 : tx.cps.toList.take ring.length = (ring.map b64T).map Int.toNat := by rw [ecs, ← List.map_take, rm]
        refine ⟨?_⟩
        rw [sliceTo (by omega), ecs2]
        refine wpAny_pyIter_str ?_
        intro oI St W hst
        refine ⟨_, _, _, _, _, _, rfl, W _ rfl, ?sz2, hst, ?fp2, ⟨?tests2, ?elt2⟩, ?fin2⟩
        case sz2 =>
          rw [sizeLine_eq]
          show (List.map Int.toNat (List.map b64T ring)).toArray.size ≤ _
          rw [List.size_toArray, List.length_map, List.length_map]
          omega
        case fp2 =>
          intro b hb
          rw [List.mem_singleton.mp hb]
          show _ < (Heap.push _ _).objs.size
          rw [Heap.size_push]; exact Nat.lt_succ_self _
        case tests2 => exact fun C i v s3 m3 E' _ _ _ _ _ _ => wpAny_pure ⟨rfl, keepsSelf⟩
        case elt2 =>
          rintro C i v s3 m3 E' hC ⟨c, u, hc, rfl⟩ _ hns hm keep htk
          have hcA : s3.heap.IsCell (L' + 1) (some (.str alpha _)) := ⟨oA, keep _ _ (nin1 (Nat.ne_of_lt (Heap.lt_size (N14.get (o := oA) (by k_mem))))) (Heap.get?_push_of_some _ (N14.get (by k_mem))), dA⟩
          iterate 1 (first | walk1 | (dsimp only; walk1))
          refine ldCellK rfl hcA ?_
          iterate 3 (first | walk1 | (dsimp only; walk1))
          refine ldVarK hns hm ?_
          iterate 1 (first | walk1 | (dsimp only; walk1))
          have hc' : ((ring.map b64T).map Int.toNat)[i]? = some c := by simpa using hc
          have hcm := List.mem_of_getElem? hc'
          rw [List.map_map] at hcm
          obtain ⟨e, he, hce⟩ := List.mem_map.mp hcm
          have hce' : (b64T e).toNat = c := hce
          have hre := hr e he
          have hf := findAlpha e.toNat (by omega)
          rw [show ((e.toNat : Nat) : Int) = e by omega, hce'] at hf
          refine index_or rfl (fun h => absurd (h.symm.trans hf) (by omega)) (fun _ _ => ?_)
          exact ⟨⟨c, u, _, rfl, rfl⟩, keepsSelf⟩
        case fin2 =>
          intro D3 h15 tk15 ys3 vs15 hD3 hl15 hp15 hn15 hP15 pr15 k15
          obtain ⟨c15, e15⟩ := hp15
          rw [show vs15.filter (fun _ => true) = vs15 by simp] at pr15
          have hn15' : vs15.length = ring.length := by
            rw [hn15]
            show (List.map Int.toNat (List.map b64T ring)).toArray.size = _
            rw [List.size_toArray, List.length_map, List.length_map]
          have hi15 := pairedIdx ring vs15 _ hn15' (fun j v hv => by
            obtain ⟨c, u, hc, ev⟩ := hP15 j v hv
            exact ⟨c, u, by simpa using hc, ev⟩) hr pr15
          rw [← Array.toArray_toList (xs := ys3)] at e15
          have st15 := fun b o (e : Heap.get? _ b = some o) => k15 b o (nin1 (Nat.ne_of_lt (Heap.lt_size e))) (Heap.get?_push_of_some _ e)
          have F15 := frStays F14 st15
          have N15 := newsStays N14 st15
          have hsD : s.heap.get? D3 = none := by
            cases q : s.heap.get? D3 with
            | none => rfl
            | some o =>
              have := staysOf G F14 (fun q hq => N14 q (by
                rw [List.mem_singleton.mp hq]; k_mem)) (fun q hq => (hn q hq).1) _ _ q
              rw [Heap.get?_push_of_some _ this] at hD3; cases hD3
          exact hret D3 _ c15 h15 _ (staysOf G F15 (fun q hq => N15 q (by rw [List.mem_singleton.mp hq]; k_mem)) fun q hq => (hn q hq).1) hsD e15 hi15
end
end Mine
end
theorem Mine.freshC12p : True := by
  w_top off
  trivial
section -- C12p
open PySem PySem.W PyProof.Rows PySem.Spec PySem.Calls
namespace Mine
noncomputable def lawIn : Stmt := sAt prog0.main.body 23
noncomputable def pairsSt : Stmt := sAt ((fBody lawIn).drop ((fBody lawIn).length - 3)) 0
noncomputable def cOf : Stmt → Expr
  | .Assign _ e _ => e
  | _ => .Name "" default
noncomputable def eltOf : Expr → Expr
  | .ListComp e _ _ _ => e
  | e => e
noncomputable def scOf : Expr → Scope
  | .ListComp _ _ s _ => s
  | _ => default
noncomputable def genOf (k : Nat) : Expr → Comprehension
  | .ListComp _ g _ _ => (g.drop k).headD ⟨.Name "" default, .Name "" default, [], 0⟩
  | _ => ⟨.Name "" default, .Name "" default, [], 0⟩
noncomputable def elt2 : Expr := eltOf (cOf pairsSt)
noncomputable def iter1 : Expr := (genOf 0 (cOf pairsSt)).iter
noncomputable def iter2 : Expr := (genOf 1 (cOf pairsSt)).iter
noncomputable def test2 : Expr := ((genOf 1 (cOf pairsSt)).ifs).headD (.Name "" default)
noncomputable def scope2 : Scope := scOf (cOf pairsSt)
section
variable {w : World} {g : Heap} {p : Program} {loose : List Str} {mean : ExcName → Option Value} {mg mb : Str → Option Value} {s : Shared} {E : Value → Shared → Prop} {L fa C : Addr} {qual : Str} {cd : Value} {m : Mp} {A : Around}
  {lsc : Scope} {oC o1 : Obj} {m2 : Str → Option Value} {i j n : Int} {ti tj tn : Tok}
set_option maxRecDepth 100000 in
set_option maxHeartbeats 4000000 in
theorem eltE {Q : Value → Shared → Prop} {e : Expr} {sc2 : Scope} (hB : lsc = fScope lawIn) (hE : e = elt2) (hS : sc2 = scope2) (X : (hd.heap_39 w.params).In g) (T : Top p loose mean mg mb g) (F : Fr g L s.heap m) (N : News g L s.heap [(C, oC), (L + 1, o1)]) (hC : LCg.NsObj oC m2) (hi : m2 (Str.ofString "i") = some (.int i ti)) (hj : m2 (Str.ofString "j") = some (.int j tj))
    (hQ : ∀ tk t, Q (.int (8 * i + j) t) { s with toks := tk }) :
    wpAny (model prog0 w) A (eval e (compEnvC sc2 [(Str.ofString "size", L + 1)] C (envOfC qual lsc L fa cd))) Q E s := by
  revert X; unfold prog0; k_fill; intro X
  conv at hB => rhs; whnf
  conv at hS => rhs; whnf
  conv at hE => rhs; whnf
  subst hB hS hE
  k_steps
  exact hQ _ _
set_option maxRecDepth 100000 in
set_option maxHeartbeats 4000000 in
theorem testE {Q : Bool → Shared → Prop} {e : Expr} {sc2 : Scope} (hB : lsc = fScope lawIn) (hE : e = test2) (hS : sc2 = scope2) (X : (hd.heap_39 w.params).In g) (T : Top p loose mean mg mb g) (F : Fr g L s.heap m) (N : News g L s.heap [(C, oC), (L + 1, o1)]) (hC : LCg.NsObj oC m2) (hi : m2 (Str.ofString "i") = some (.int i ti)) (hj : m2 (Str.ofString "j") = some (.int j tj)) (dS : o1.data = .cell (some (.int n tn)))
    (hQ : ∀ tk, Q (j - i != n - 1) { s with toks := tk }) :
    wpAny (model prog0 w) A (isTrue e (compEnvC sc2 [(Str.ofString "size", L + 1)] C (envOfC qual lsc L fa cd)) (eval e (compEnvC sc2 [(Str.ofString "size", L + 1)] C (envOfC qual lsc L fa cd)))) Q E s := by
  revert X; unfold prog0; k_fill; intro X
  conv at hB => rhs; whnf
  conv at hS => rhs; whnf
  conv at hE => rhs; whnf
  subst hB hS hE
  k_steps
  exact hQ _
set_option maxRecDepth 100000 in
set_option maxHeartbeats 4000000 in
theorem iter2E {Q : Value → Shared → Prop} {e : Expr} {sc2 : Scope} (hB : lsc = fScope lawIn) (hE : e = iter2) (hS : sc2 = scope2) (X : (hd.heap_39 w.params).In g) (T : Top p loose mean mg mb g) (F : Fr g L s.heap m) (N : News g L s.heap [(C, oC), (L + 1, o1)]) (hC : LCg.NsObj oC m2) (hi : m2 (Str.ofString "i") = some (.int i ti)) (dS : o1.data = .cell (some (.int n tn)))
    (hQ : ∀ h' tk t₁ u₁ v₁, IsRange h' s.heap.objs.size (i + 2) n 1 t₁ u₁ v₁ → (∀ b o, s.heap.get? b = some o → h'.get? b = some o) → Q (.ref s.heap.objs.size) { s with heap := h', toks := tk }) :
    wpAny (model prog0 w) A (eval e (compEnvC sc2 [(Str.ofString "size", L + 1)] C (envOfC qual lsc L fa cd))) Q E s := by
  revert X; unfold prog0; k_fill; intro X
  conv at hB => rhs; whnf
  conv at hS => rhs; whnf
  conv at hE => rhs; whnf
  subst hB hS hE
  k_steps
  exact hQ _ _ _ _ _ (by assumption) (by assumption)

noncomputable def part (n a k : Nat) : List Int := ((List.range k).map fun j => a + 2 + j).filterMap fun (j : Nat) => if (j : Int) - a ≠ (n : Int) - 1 then some (8 * (a : Int) + (j : Int)) else none
theorem part_succ (n a k : Nat) : part n a (k + 1) = part n a k ++ if ((a : Int) + 2 + k - a != (n : Int) - 1) = true then [8 * (a : Int) + (a + 2 + k)] else [] := by
  unfold part
  rw [List.range_succ, List.map_append, List.filterMap_append]
  congr 1
  by_cases h : (a : Int) + 2 + k - a = (n : Int) - 1
  · have h' : (((a + 2 + k : Nat) : Int)) - a = (n : Int) - 1 := by omega
    simp [h, h']
  · have h' : ¬ (((a + 2 + k : Nat) : Int)) - a = (n : Int) - 1 := by omega
    simp [h, h']
theorem part_len (n a : Nat) : ∀ k, (part n a k).length ≤ k
  | 0 => Nat.le_refl _
  | k + 1 => by
    rw [part_succ, List.length_append]
    have := part_len n a k
    split <;> simp <;> omega
noncomputable def Kp (h h' : Heap) : Prop := ∀ b o, h.get? b = some o → h'.get? b = some o
theorem Kp.change {h h₁ h₂ : Heap} {a : Addr} (K : Kp h h₁) (hs : Heap.ExtBut a h₁ h₂) (ha : h.get? a = none) : Kp h h₂ := fun b o e => hs b o (by rintro rfl; rw [ha] at e; cases e) (K b o e)
inductive InnerInv (s0 s : Shared) (I J C D : Addr) (oI : Obj) (n a q : Nat) (ti : Tok) (xs : List Int) (z : Nat) (s' : Shared) : Prop
  | intro (h' : Heap) (tk : Nat) (m2' : Str → Option Value) (ys' : List Value) (k : Nat) (c1 : s' = { s with heap := h', toks := tk }) (c2 : k ≤ q) (c3 : z = q - k) (c4 : Kp s0.heap h') (c5 : h'.get? I = some oI)
    (c6 : IsRangeIter h' J ((a : Int) + 2 + (k : Nat)) ((q : Int) - (k : Nat)) 1) (c7 : h'.get? D = some (LCg.lst ys')) (c8 : h'.Ns C m2') (c9 : m2' (Str.ofString "i") = some (.int a ti)) (c10 : IntsAre ys' (xs ++ part n a k)) : InnerInv s0 s I J C D oI n a q ti xs z s'
set_option maxRecDepth 100000 in
theorem inner {lsc sc2 : Scope} {elt t1 i1 i2 c : Expr} {pj pos : Pos} {s0 : Shared} {R : Result → Shared → Prop} {I J C D : Addr} {oI : Obj} {m2 : Str → Option Value} {n a q : Nat} {ys : List Value} {xs : List Int} (hB : lsc = fScope lawIn) (hE : elt = elt2) (hT : c = test2) (hS : sc2 = scope2)
    (hh : A.handled = none) (X : (hd.heap_39 w.params).In g) (T : Top p loose mean mg mb g) (F : Fr g L s0.heap m) (N : News g L s0.heap [(L + 1, o1)]) (dS : o1.data = .cell (some (.int n tn)))
    (C0 : s0.heap.get? C = none) (D0 : s0.heap.get? D = none) (J0 : s0.heap.get? J = none) (hCD : C ≠ D) (hCI : C ≠ I) (hDI : D ≠ I) (hJI : J ≠ I) (hJC : J ≠ C) (hJD : J ≠ D)
    (K : Kp s0.heap s.heap) (hI : s.heap.get? I = some oI) (hJ : IsRangeIter s.heap J ((a : Int) + 2) q 1) (hD : s.heap.get? D = some (LCg.lst ys)) (hC : s.heap.Ns C m2) (hi : m2 (Str.ofString "i") = some (.int a ti)) (hys : IntsAre ys xs) (hlen : xs.length + q ≤ 1000)
    (hR : ∀ h' tk m2' ys', Kp s0.heap h' → h'.get? I = some oI → h'.get? D = some (LCg.lst ys') → h'.Ns C m2' → IntsAre ys' (xs ++ part n a q) → R (.ok .next) { s with heap := h', toks := tk }) :
    codeAny (model prog0 w) A (.compStart (C2 elt t1 i1 (.Name (Str.ofString "j") pj) i2 c sc2 pos) 1 (.ref J) (.ref D) (compEnvC sc2 [(Str.ofString "size", L + 1)] C (envOfC qual lsc L fa cd))) R s := by
  have loop : codeAny (model prog0 w) A (.compLoop (C2 elt t1 i1 (.Name (Str.ofString "j") pj) i2 c sc2 pos) 1 (.ref J) (.ref D) (compEnvC sc2 [(Str.ofString "size", L + 1)] C (envOfC qual lsc L fa cd))) R s := by
    refine loop1 (InnerInv s0 s I J C D oI n a q ti xs) ?_ q
      ⟨s.heap, s.toks, m2, ys, 0, rfl, Nat.zero_le _, rfl, K, hI, by simpa using hJ, hD, hC, hi, by rw [show part n a 0 = [] from rfl, List.append_nil]; exact hys⟩
    rintro z s' ⟨h', tk, m2', ys', k, rfl, hk, rfl, K', hI', hJ', hD', hC', hi', hy'⟩
    by_cases hlt : k < q
    · refine wpAny_pyNext_range_item hJ' (by omega) fun h₁ hJ₁ hs₁ => ?_
      refine wpAny_assign_Name (wpAny_storeName_local (by subst hS hB; rfl) (hC'.sameBut hs₁ (Ne.symm hJC)) (fun h₂ hn₂ hs₂ => ?_) (by subst hS hB; rfl))
      have K₂ : Kp s0.heap h₂ := (K'.change hs₁.extBut J0).change hs₂.extBut C0
      obtain ⟨oC, heC, hoC⟩ := LCg.ns_obj hn₂
      have fr : ∀ x, s0.heap.get? x = none → g.get? x = none ∧ x ≠ L := fun x hx => getL_of F hx
      have N₂ : News g L h₂ [(C, oC), (L + 1, o1)] := newsOne (N.grown K₂) heC (fr C C0).2 (fr C C0).1
      have hj : (fun z => if z = Str.ofString "j" then some (Value.int ((a : Int) + 2 + (k : Nat)) tk) else m2' z) (Str.ofString "i") = some (.int a ti) := hi'
      refine testE hB hT hS X T (F.keeps K₂) N₂ hoC hj (if_pos rfl) dS fun tk₃ => ?_
      have hI₂ : h₂.get? I = some oI := hs₂.extBut _ _ (Ne.symm hCI) (hs₁.extBut _ _ (Ne.symm hJI) hI')
      have hJ₂ : IsRangeIter h₂ J ((a : Int) + 2 + ((k + 1 : Nat) : Int)) ((q : Int) - ((k + 1 : Nat) : Int)) 1 := by
        have e1 : (a : Int) + 2 + ((k + 1 : Nat) : Int) = (a : Int) + 2 + (k : Int) + 1 := by omega
        have e2 : (q : Int) - ((k + 1 : Nat) : Int) = (q : Int) - (k : Int) - 1 := by omega
        rw [e1, e2]
        exact hs₂.extBut _ _ hJC hJ₁
      have hD₂ : h₂.get? D = some (LCg.lst ys') := hs₂.extBut _ _ (Ne.symm hCD) (hs₁.extBut _ _ (Ne.symm hJD) hD')
      have hp := part_succ n a k
      cases ht : ((a : Int) + 2 + (k : Int) - a != (n : Int) - 1) with
      | false =>
        rw [ht] at hp
        simp only [Bool.false_eq_true, if_false, List.append_nil] at hp ⊢
        exact ⟨q - (k + 1), by omega, h₂, _, _, ys', k + 1, rfl, hlt, rfl, K₂, hI₂, hJ₂, hD₂, hn₂, hj, by rw [hp]; exact hy'⟩
      | true =>
        rw [ht] at hp
        simp only [if_true] at hp ⊢
        refine eltE hB hE hS X T (F.keeps K₂) N₂ hoC hj (if_pos rfl) fun tk₄ t₄ => ?_
        have hl' := hy'.length
        have hpl := part_len n a k
        rw [List.length_append] at hl'
        refine append_at (hsz := by show ys'.toArray.size ≤ sizeLine; rw [List.size_toArray]; exact Nat.le_trans (show ys'.length ≤ 1000 by omega) (by size_fits)) hD₂ fun h₅ hs₅ hD₅ => ?_
        refine ⟨q - (k + 1), by omega, h₅, _, _, ys' ++ [.int (8 * (a : Int) + ((a : Int) + 2 + (k : Int))) t₄], k + 1, rfl, hlt, rfl, K₂.change hs₅.extBut D0, hs₅.extBut _ _ (Ne.symm hDI) hI₂, hs₅.extBut _ _ hJD hJ₂, hD₅.trans (congrArg some (LCg.lst_snoc _ _)), hn₂.sameBut hs₅ hCD, hj, ?_⟩
        rw [hp, ← List.append_assoc]
        exact IntsAre.append hy' (.cons _ _ .nil)
    · obtain rfl : k = q := by omega
      refine wpAny_pyNext_range_end hh hJ' (by omega) fun h₁ he₁ => ?_
      exact hR h₁ _ _ ys' (K'.change he₁ J0) (he₁ _ _ (Ne.symm hJI) hI') (he₁ _ _ (Ne.symm hJD) hD') (hC'.extBut he₁ (Ne.symm hJC)) hy'
  exact start1 loop (wpAny_pyIter_rangeiter hJ loop)
noncomputable def outerP (n a : Nat) : List Int := (List.range a).flatMap fun i => part n i (n - (i + 2))
theorem outerP_succ (n a : Nat) : outerP n (a + 1) = outerP n a ++ part n a (n - (a + 2)) := by
  unfold outerP
  rw [List.range_succ, List.flatMap_append]
  simp
theorem outerP_len (n : Nat) : ∀ a, (outerP n a).length ≤ a * n
  | 0 => Nat.zero_le _
  | a + 1 => by
    rw [outerP_succ, List.length_append, Nat.succ_mul]
    have := outerP_len n a
    have := part_len n a (n - (a + 2))
    omega
theorem rsz : ∀ n : Nat, n ≤ 7 → ∀ a : Nat, a < n → Builtin.Range.rangeSize ((a : Int) + 2) n 1 = ((n - (a + 2) : Nat) : Int) ∧ Builtin.Range.small ((a : Int) + 2) n 1 = true := by
  have : ∀ n : Fin 8, ∀ a : Fin 8, a.1 < n.1 → Builtin.Range.rangeSize ((a.1 : Int) + 2) (n.1 : Int) 1 = ((n.1 - (a.1 + 2) : Nat) : Int) ∧ Builtin.Range.small ((a.1 : Int) + 2) (n.1 : Int) 1 = true := by decide +kernel
  intro n hn a ha
  exact this ⟨n, by omega⟩ ⟨a, by omega⟩ ha
theorem rsz0 : ∀ n : Nat, n ≤ 7 → Builtin.Range.rangeSize 0 n 1 = (n : Int) ∧ Builtin.Range.small 0 n 1 = true := by
  have : ∀ n : Fin 8, Builtin.Range.rangeSize 0 (n.1 : Int) 1 = (n.1 : Int) ∧ Builtin.Range.small 0 (n.1 : Int) 1 = true := by decide +kernel
  intro n hn
  exact this ⟨n, by omega⟩
theorem Kp.none {h h' : Heap} {a : Addr} (K : Kp h h') (e : h'.get? a = none) : h.get? a = none := by
  cases q : h.get? a with
  | none => rfl
  | some o => rw [K _ _ q] at e; cases e
theorem topNone (h : Heap) : h.get? h.objs.size = none := by
  cases q : h.get? h.objs.size with
  | none => rfl
  | some o => exact absurd (Heap.lt_size q) (Nat.lt_irrefl _)
theorem neTop {h : Heap} {a : Addr} {o : Obj} (e : h.get? a = some o) : h.objs.size ≠ a := fun q => by rw [← q, topNone] at e; cases e
inductive OuterInv (s0 s : Shared) (I C D : Addr) (n : Nat) (z : Nat) (s' : Shared) : Prop
  | intro (h' : Heap) (tk : Nat) (m2' : Str → Option Value) (ys' : List Value) (a : Nat) (c1 : s' = { s with heap := h', toks := tk }) (c2 : a ≤ n) (c3 : z = n - a) (c4 : Kp s0.heap h')
    (c5 : IsRangeIter h' I (a : Nat) ((n : Int) - (a : Nat)) 1) (c6 : h'.get? D = some (LCg.lst ys')) (c7 : h'.Ns C m2') (c8 : IntsAre ys' (outerP n a)) : OuterInv s0 s I C D n z s'
set_option maxRecDepth 100000 in
theorem outer {lsc sc2 : Scope} {elt i1 i2 c : Expr} {pi pj pos : Pos} {s0 : Shared} {R : Result → Shared → Prop} {I C D : Addr} {m2 : Str → Option Value} {n : Nat} (hB : lsc = fScope lawIn) (hE : elt = elt2) (hT : c = test2) (hI2 : i2 = iter2) (hS : sc2 = scope2)
    (hh : A.handled = none) (X : (hd.heap_39 w.params).In g) (T : Top p loose mean mg mb g) (F : Fr g L s0.heap m) (N : News g L s0.heap [(L + 1, o1)]) (dS : o1.data = .cell (some (.int n tn))) (n7 : n ≤ 7)
    (C0 : s0.heap.get? C = none) (D0 : s0.heap.get? D = none) (I0 : s0.heap.get? I = none) (hCD : C ≠ D) (hCI : C ≠ I) (hDI : D ≠ I)
    (K : Kp s0.heap s.heap) (hI : IsRangeIter s.heap I 0 n 1) (hD : s.heap.get? D = some (LCg.lst [])) (hC : s.heap.Ns C m2)
    (hR : ∀ h' tk m2' ys', Kp s0.heap h' → h'.get? D = some (LCg.lst ys') → h'.Ns C m2' → IntsAre ys' (outerP n n) → R (.ok .next) { s with heap := h', toks := tk }) :
    codeAny (model prog0 w) A (.compStart (C2 elt (.Name (Str.ofString "i") pi) i1 (.Name (Str.ofString "j") pj) i2 c sc2 pos) 0 (.ref I) (.ref D) (compEnvC sc2 [(Str.ofString "size", L + 1)] C (envOfC qual lsc L fa cd))) R s := by
  have loop : codeAny (model prog0 w) A (.compLoop (C2 elt (.Name (Str.ofString "i") pi) i1 (.Name (Str.ofString "j") pj) i2 c sc2 pos) 0 (.ref I) (.ref D) (compEnvC sc2 [(Str.ofString "size", L + 1)] C (envOfC qual lsc L fa cd))) R s := by
    refine loop0 (OuterInv s0 s I C D n) ?_ n
      ⟨s.heap, s.toks, m2, [], 0, rfl, Nat.zero_le _, rfl, K, by simpa using hI, hD, hC, .nil⟩ (by intro _; rfl) (by subst hI2; intro _; rfl)
    rintro z s' ⟨h', tk, m2', ys', a, rfl, hk, rfl, K', hI', hD', hC', hy'⟩
    by_cases hlt : a < n
    · refine wpAny_pyNext_range_item hI' (by omega) fun h₁ hI₁ hs₁ => ?_
      refine wpAny_assign_Name (wpAny_storeName_local (by subst hS hB; rfl) (hC'.sameBut hs₁ hCI) (fun h₂ hn₂ hs₂ => ?_) (by subst hS hB; rfl))
      have K₂ : Kp s0.heap h₂ := (K'.change hs₁.extBut I0).change hs₂.extBut C0
      obtain ⟨oC, heC, hoC⟩ := LCg.ns_obj hn₂
      have fr := getL_of F C0
      have N₂ : News g L h₂ [(C, oC), (L + 1, o1)] := newsOne (N.grown K₂) heC fr.2 fr.1
      have hD₂ : h₂.get? D = some (LCg.lst ys') := hs₂.extBut _ _ (Ne.symm hCD) (hs₁.extBut _ _ hDI hD')
      have hI₂ := hs₂.extBut _ _ (Ne.symm hCI) hI₁
      refine iter2E hB hI2 hS X T (F.keeps K₂) N₂ hoC (if_pos rfl) dS fun h₃ tk₃ t₃ u₃ v₃ hr₃ k₃ => ?_
      refine wpAny_pyIter_range hr₃ (rsz n n7 a hlt).2 ?_
      rw [(rsz n n7 a hlt).1]
      have k₄ : ∀ b o, h₂.get? b = some o → (h₃.push { cls := .type "range_iterator", data := .fields #[rawInt ((a : Int) + 2), rawInt ((n - (a + 2) : Nat) : Int), rawInt 1] }).get? b = some o := fun b o e => Heap.get?_push_of_some _ (k₃ b o e)
      have hl' := hy'.length
      have hol := outerP_len n a
      have hmul : a * n ≤ 7 * 7 := Nat.mul_le_mul (by omega) n7
      refine inner (s0 := s0) (oI := _) (a := a) (q := n - (a + 2)) (xs := outerP n a) hB hE hT hS hh X T F N dS C0 D0 (K₂.none ?_) hCD hCI hDI (neTop (k₃ _ _ hI₂)) (neTop (k₃ _ _ heC)) (neTop (k₃ _ _ hD₂)) (fun b o e => k₄ b o (K₂ b o e)) (k₄ _ _ hI₂) (Heap.get?_push_size _ rfl) (k₄ _ _ hD₂) (hn₂.keeps k₄) (if_pos rfl) hy' (by omega) fun h₅ tk₅ m₅ ys₅ K₅ hI₅ hD₅ hC₅ hy₅ => ?_
      · cases q : h₂.get? h₃.objs.size with
        | none => rfl
        | some o => exact absurd (Heap.lt_size (k₃ _ _ q)) (Nat.lt_irrefl _)
      · have e1 : (a : Int) + 1 = ((a + 1 : Nat) : Int) := by omega
        have e2 : (n : Int) - (a : Int) - 1 = (n : Int) - ((a + 1 : Nat) : Int) := by omega
        refine ⟨n - (a + 1), by omega, h₅, tk₅, m₅, ys₅, a + 1, rfl, hlt, rfl, K₅, ?_, hD₅, hC₅, by rw [outerP_succ]; exact hy₅⟩
        rw [← e2, ← e1]
        exact hI₅
    · obtain rfl : a = n := by omega
      refine wpAny_pyNext_range_end hh hI' (by omega) fun h₁ he₁ => ?_
      exact hR h₁ _ _ ys' (K'.change he₁ I0) (he₁ _ _ hDI hD') (hC'.extBut he₁ hCI) hy'
  exact codeAny_compStart_list loop (wpAny_pyIter_rangeiter hI loop)
set_option maxRecDepth 100000 in
set_option maxHeartbeats 4000000 in
theorem iter1E {Q : Value → Shared → Prop} {e : Expr} (hB : lsc = fScope lawIn) (hE : e = iter1) (X : (hd.heap_39 w.params).In g) (T : Top p loose mean mg mb g) (F : Fr g L s.heap m) (N : News g L s.heap [(L + 1, o1)]) (dS : o1.data = .cell (some (.int n tn)))
    (hQ : ∀ h' tk t₁ u₁ v₁, IsRange h' s.heap.objs.size 0 n 1 t₁ u₁ v₁ → (∀ b o, s.heap.get? b = some o → h'.get? b = some o) → Q (.ref s.heap.objs.size) { s with heap := h', toks := tk }) :
    wpAny (model prog0 w) A (eval e (envOfC qual lsc L fa cd)) Q E s := by
  revert X; unfold prog0; k_fill; intro X
  conv at hB => rhs; whnf
  conv at hE => rhs; whnf
  subst hB hE
  k_steps
  exact hQ _ _ _ _ _ (by assumption) (by assumption)
set_option maxRecDepth 100000 in
set_option maxHeartbeats 4000000 in
theorem pairsA {Q : Flow → Shared → Prop} {st : Stmt} {n : Nat} {news : List (Addr × Obj)} (hB : lsc = fScope lawIn) (hst : st = pairsSt) (hh : A.handled = none) (X : (hd.heap_39 w.params).In g) (T : Top p loose mean mg mb g) (F : Fr g L s.heap m) (N : News g L s.heap news) (h1 : (L + 1, o1) ∈ news) (dS : o1.data = .cell (some (.int n tn))) (n7 : n ≤ 7)
    (hQ : ∀ D ys h' tk, Fr g L h' (fun z => if z = Str.ofString "pairs" then some (.ref D) else m z) → News g L h' ((D, LCg.lst ys) :: news) → IntsAre ys (pairsOf n) → s.heap.get? D = none → Q .next { s with heap := h', toks := tk }) :
    wpAny (model prog0 w) A (exec st (envOfC qual lsc L fa cd)) Q E s := by
  have hst' : ∃ py pi pj pos spos, st = .Assign [.Name (Str.ofString "pairs") py] (C2 elt2 (.Name (Str.ofString "i") pi) iter1 (.Name (Str.ofString "j") pj) iter2 test2 scope2 pos) spos ∧ swapsWith (C2 elt2 (.Name (Str.ofString "i") pi) iter1 (.Name (Str.ofString "j") pj) iter2 test2 scope2 pos) (some (.Name (Str.ofString "pairs") py)) spos.line (envOfC qual lsc L fa cd) = pure true := ⟨_, _, _, _, _, hst, by subst hB; with_unfolding_all rfl⟩
  obtain ⟨py, pi, pj, pos, spos, rfl, hsw⟩ := hst'
  clear hst
  have N1 : News g L s.heap [(L + 1, o1)] := fun q hq => by rw [List.mem_singleton.mp hq]; exact N _ h1
  rw [exec_Assign_Name_used _ _ _ _ hsw]
  refine wpAny_bind (wpAny_standAt (wpAny_bind ?_))
  show wpAny _ A (do let _ ← comprehension (C2 elt2 (.Name (Str.ofString "i") pi) iter1 (.Name (Str.ofString "j") pj) iter2 test2 scope2 pos) scope2 (envOfC qual lsc L fa cd) _ (newList []) false (eval iter1 (envOfC qual lsc L fa cd)) (some (assign (.Name (Str.ofString "pairs") py) (envOfC qual lsc L fa cd)))) _ _ s
  refine wpAny_bind (wpAny_mono (wpAny_comprehension_free (cl := [(Str.ofString "size", L + 1)]) (use := some (assign (.Name (Str.ofString "pairs") py) (envOfC qual lsc L fa cd))) (Q := fun _ s' => Q .next s') rfl (by intro _; rfl) (by subst hB; with_unfolding_all rfl) rfl (by decide) ?_) (fun _ s' hq => wpAny_pure (wpAny_pure hq)) fun _ _ e => e)
  refine iter1E hB rfl X T F N1 dS fun h₁ tk₁ t₁ u₁ v₁ hr₁ k₁ => ?_
  refine wpAny_pyIter_range hr₁ (rsz0 n n7).2 ?_
  rw [(rsz0 n n7).1]
  refine wpAny_newObj_type (wpAny_newFunctionEnv (by decide) (by intro y hy; simp at hy) (fun h₂ hns₂ hsb₂ => ?_) rfl)
  dsimp only at hns₂ hsb₂ ⊢
  generalize hH1 : h₁.push { cls := .type "range_iterator", data := .fields #[rawInt 0, rawInt (n : Int), rawInt 1] } = H1 at hns₂ hsb₂ ⊢
  generalize hH2 : H1.push { cls := .type "list", dict := none, data := .seq ([] : List Value).toArray } = H2 at hns₂ hsb₂ ⊢
  have sI : H1.objs.size = h₁.objs.size + 1 := by rw [← hH1, Heap.size_push]
  have sD : H2.objs.size = H1.objs.size + 1 := by rw [← hH2, Heap.size_push]
  have K1 : Kp h₁ H1 := fun b o e => hH1 ▸ Heap.get?_push_of_some _ e
  have K2 : Kp H1 H2 := fun b o e => hH2 ▸ Heap.get?_push_of_some _ e
  have eI : H1.get? h₁.objs.size = some { cls := .type "range_iterator", data := .fields #[rawInt 0, rawInt (n : Int), rawInt 1] } := hH1 ▸ Heap.get?_push_size _ rfl
  have eD : H2.get? H1.objs.size = some (LCg.lst []) := hH2 ▸ Heap.get?_push_size _ rfl
  have up : ∀ b o, H2.get? b = some o → h₂.get? b = some o := fun b o e => hsb₂.extBut b o (Ne.symm (neTop e)) (Heap.get?_push_of_some _ e)
  have K : Kp s.heap h₂ := fun b o e => up b o (K2 _ _ (K1 _ _ (k₁ b o e)))
  have C0 : s.heap.get? H2.objs.size = none := by
    cases q : s.heap.get? H2.objs.size with
    | none => rfl
    | some o => exact absurd (Heap.lt_size (K2 _ _ (K1 _ _ (k₁ _ _ q)))) (Nat.lt_irrefl _)
  have D0 : s.heap.get? H1.objs.size = none := by
    cases q : s.heap.get? H1.objs.size with
    | none => rfl
    | some o => exact absurd (Heap.lt_size (K1 _ _ (k₁ _ _ q))) (Nat.lt_irrefl _)
  have I0 : s.heap.get? h₁.objs.size = none := by
    cases q : s.heap.get? h₁.objs.size with
    | none => rfl
    | some o => exact absurd (Heap.lt_size (k₁ _ _ q)) (Nat.lt_irrefl _)
  have hCD : H2.objs.size ≠ H1.objs.size := neTop eD
  have hCI : H2.objs.size ≠ h₁.objs.size := neTop (K2 _ _ eI)
  have hDI : H1.objs.size ≠ h₁.objs.size := neTop eI
  refine outer (s0 := s) (I := h₁.objs.size) (C := H2.objs.size) (D := H1.objs.size) (n := n) hB rfl rfl rfl rfl hh X T F N1 dS n7 C0 D0 I0 hCD hCI hDI K (up _ _ (K2 _ _ eI)) (up _ _ eD) hns₂ fun h₃ tk₃ m₃ ys K₃ hD₃ hC₃ hy₃ => ?_
  show wpAny _ A (assign (.Name (Str.ofString "pairs") py) (envOfC qual lsc L fa cd) (.ref H1.objs.size)) _ _ _
  have hLC := (getL_of F C0).2
  have hLD := (getL_of F D0).2
  have F₃ := F.keeps K₃
  refine wpAny_assign_Name (wpAny_storeName_local (by subst hB; rfl) F₃.ns (fun h₄ hn₄ hs₄ => ?_) (by subst hB; rfl))
  refine ⟨m₃, hC₃.sameBut hs₄ hLC, fun h₅ hs₅ => ?_⟩
  have K5 : ∀ b o, b ≠ L → s.heap.get? b = some o → h₅.get? b = some o := fun b o hb e => hs₅.extBut b o (fun q => by rw [show b = H2.objs.size from q, C0] at e; cases e) (hs₄.extBut b o hb (K₃ b o e))
  refine hQ H1.objs.size ys h₅ _ ⟨hn₄.sameBut hs₅ (Ne.symm hLC), fun b o e => K5 b o (Nat.ne_of_lt (Nat.lt_of_lt_of_le (Heap.lt_size e) F.above)) (F.keep b o e), F.above⟩ ?_ hy₃ D0
  refine newsOne (fun q hq => ⟨K5 _ _ (N q hq).2.1 (N q hq).1, (N q hq).2⟩) (hs₅.extBut _ _ (Ne.symm hCD) (hs₄.extBut _ _ hLD hD₃)) hLD (getL_of F D0).1
end
end Mine
end
theorem Mine.freshC12d : True := by
  w_top off
  trivial
section -- C12d
open PySem PySem.W PyProof.Rows PySem.Spec PySem.Calls
namespace Mine
noncomputable def dueSt : Stmt := sAt ((fBody lawIn).drop ((fBody lawIn).length - 2)) 0
noncomputable def eltD : Expr := eltOf (cOf dueSt)
noncomputable def iterD : Expr := (genOf 0 (cOf dueSt)).iter
noncomputable def testDx : Expr := ((genOf 0 (cOf dueSt)).ifs).headD (.Name "" default)
noncomputable def scopeD : Scope := scOf (cOf dueSt)
section
local macro_rules | `(tactic| walk_at "idle") => `(tactic| fail)
local macro_rules | `(tactic| walk_at "idle") => `(tactic| fail)
local macro_rules | `(tactic| walk_at "idle") => `(tactic| fail)
variable {w : World} {g : Heap} {p : Program} {loose : List Str} {mean : ExcName → Option Value} {mg mb : Str → Option Value} {s : Shared} {E : Value → Shared → Prop} {L fa C ja : Addr} {qual : Str} {cd : Value} {m : Mp} {A : Around}
  {lsc : Scope} {oC o8 : Obj} {m2 : Str → Option Value} {x : Int} {tx : Tok} {jv : List Value} {js : List Int} {ej : Nat}
local macro_rules | `(tactic| walk_at "compareOp NotIn int ref") => `(tactic| (refine notin_list_ints (News.isList (by assumption) (.tail _ (.head _))) (by assumption) ?_))
set_option maxRecDepth 100000 in
set_option maxHeartbeats 4000000 in
theorem testD {Q : Bool → Shared → Prop} {e : Expr} {sc2 : Scope} (hB : lsc = fScope lawIn) (hE : e = testDx) (hS : sc2 = scopeD) (X : (hd.heap_39 w.params).In g) (T : Top p loose mean mg mb g) (F : Fr g L s.heap m) (N : News g L s.heap [(C, oC), (ja, listOf jv.toArray ej), (L + 1 + 1, o8)]) (hC : LCg.NsObj oC m2) (hx : m2 (Str.ofString "pair") = some (.int x tx)) (d8 : o8.data = .cell (some (.ref ja))) (hij : IntsAre jv js)
    (hQ : ∀ tk, Q (!(js.any (· == x))) { s with toks := tk }) :
    wpAny (model prog0 w) A (isTrue e (compEnvC sc2 [(Str.ofString "joined", L + 1 + 1)] C (envOfC qual lsc L fa cd)) (eval e (compEnvC sc2 [(Str.ofString "joined", L + 1 + 1)] C (envOfC qual lsc L fa cd)))) Q E s := by
  revert X; unfold prog0; k_fill; intro X
  conv at hB => rhs; whnf
  conv at hS => rhs; whnf
  conv at hE => rhs; whnf
  subst hB hS hE
  k_steps
  exact hQ s.toks
set_option maxRecDepth 100000 in
set_option maxHeartbeats 4000000 in
theorem eltDE {Q : Value → Shared → Prop} {e : Expr} {sc2 : Scope} {v : Value} (hB : lsc = fScope lawIn) (hE : e = eltD) (hS : sc2 = scopeD) (hn : s.heap.Ns C m2) (hx : m2 (Str.ofString "pair") = some v) (hQ : Q v s) :
    wpAny (model prog0 w) A (eval e (compEnvC sc2 [(Str.ofString "joined", L + 1 + 1)] C (envOfC qual lsc L fa cd))) Q E s := by
  subst hB hE hS
  exact ldVarK hn hx hQ
theorem filt {F : Value → Value → Prop} {p : Value → Bool} {q : Int → Bool} (hF : ∀ v y, F v y → y = v) (hp : ∀ n t, p (.int n t) = q n) : ∀ {vs : List Value} {xs : List Int} {ys : List Value}, IntsAre vs xs → Paired F (vs.filter p) ys → IntsAre ys (xs.filter q)
  | _, _, _, .nil, h => by cases h; exact .nil
  | _, _, _, .cons n t hv, h => by
    rw [List.filter_cons, hp] at h
    rw [List.filter_cons]
    split at h
    · rename_i hq
      rw [if_pos hq]
      cases h with
      | cons h1 h2 => rw [hF _ _ h1]; exact .cons n t (filt hF hp hv h2)
    · rename_i hq
      rw [if_neg hq]
      exact filt hF hp hv h
theorem intsMem {v : Value} : ∀ {vs : List Value} {xs : List Int}, IntsAre vs xs → v ∈ vs → ∃ n t, v = .int n t
  | _, _, .nil, h => nomatch h
  | _, _, .cons n t hv, h => by
    rcases List.mem_cons.mp h with rfl | h
    · exact ⟨n, t, rfl⟩
    · exact intsMem hv h
noncomputable def pD (js : List Int) : Value → Bool
  | .int x _ => !(js.any (· == x))
  | _ => false
set_option maxRecDepth 100000 in
set_option maxHeartbeats 4000000 in
theorem dueA {Q : Flow → Shared → Prop} {st : Stmt} {news : List (Addr × Obj)} {P : Addr} {pv : List Value} {xs : List Int} {pc : Nat} (hB : lsc = fScope lawIn) (hst : st = dueSt) (hh : A.handled = none) (X : (hd.heap_39 w.params).In g) (T : Top p loose mean mg mb g) (F : Fr g L s.heap m) (N : News g L s.heap news)
    (mP : m (Str.ofString "pairs") = some (.ref P)) (hP : (P, listOf pv.toArray pc) ∈ news) (hip : IntsAre pv xs) (hxl : xs.length ≤ 100) (hj : (ja, listOf jv.toArray ej) ∈ news) (h8 : (L + 1 + 1, o8) ∈ news) (d8 : o8.data = .cell (some (.ref ja))) (hij : IntsAre jv js)
    (hQ : ∀ D ys h' tk e, Fr g L h' (fun z => if z = Str.ofString "due" then some (.ref D) else m z) → News g L h' ((D, listOf ys.toArray e) :: news) → IntsAre ys (xs.filter fun x => !(js.any (· == x))) → s.heap.get? D = none → Q .next { s with heap := h', toks := tk }) :
    wpAny (model prog0 w) A (exec st (envOfC qual lsc L fa cd)) Q E s := by
  have hst' : ∃ py px pos spos, st = .Assign [.Name (Str.ofString "due") py] (.ListComp eltD [⟨.Name (Str.ofString "pair") px, iterD, [testDx], 0⟩] scopeD pos) spos ∧ swapsWith (.ListComp eltD [⟨.Name (Str.ofString "pair") px, iterD, [testDx], 0⟩] scopeD pos) (some (.Name (Str.ofString "due") py)) spos.line (envOfC qual lsc L fa cd) = pure true := ⟨_, _, _, _, hst, by subst hB; with_unfolding_all rfl⟩
  obtain ⟨py, px, pos, spos, rfl, hsw⟩ := hst'
  have Nf : ∀ q ∈ [(ja, listOf jv.toArray ej), (L + 1 + 1, o8)], q ∈ news := List.forall_mem_cons.mpr ⟨hj, List.forall_mem_cons.mpr ⟨h8, fun _ h => nomatch h⟩⟩
  have Pl : s.heap.IsList P pv.toArray := News.isList N hP
  have Plt : P < s.heap.objs.size := Heap.lt_size (N _ hP).1
  refine wpAny_Assign_ListComp_free (cl := [(Str.ofString "joined", L + 1 + 1)]) (pD js) (fun v y => y = v) hsw (by subst hB; with_unfolding_all rfl) (by decide) rfl (by decide) rfl (by subst hB; rfl) (by subst hB; rfl) ?_ (by intro _; rfl)
  refine wpAny_mono (Q := fun v s' => v = .ref P ∧ s = s') ?_ ?_ (fun _ _ e => e)
  · subst hB
    exact ldLoc F mP ⟨rfl, rfl⟩
  rintro _ _ ⟨rfl, rfl⟩
  refine wpAny_pyIter_list Pl ?_
  have up : ∀ {h' : Heap}, (∀ b o, b ∉ [s.heap.objs.size] → (s.heap.push { cls := .type "list_iterator", data := .fields #[.ref P, .int 0 0] }).get? b = some o → h'.get? b = some o) → ∀ b o, s.heap.get? b = some o → h'.get? b = some o :=
    fun hk b o e => hk b o (fun hm => by rcases List.mem_cons.mp hm with rfl | hm; exact Nat.lt_irrefl _ (Heap.lt_size e); cases hm) (Heap.get?_push_of_some _ e)
  refine ⟨s.heap.objs.size, [s.heap.objs.size, P], [s.heap.objs.size], pv.toArray.size, _, _, m, rfl, Walks.list hh _ _ (Nat.ne_of_lt Plt) pv.toArray, (by rw [List.size_toArray, hip.length]; exact Nat.le_trans hxl (by size_fits)), ⟨⟨_, Heap.get?_push_size _ rfl, rfl, rfl⟩, Pl.push _⟩, ?_, ?_, F.ns.push _, ⟨?_, ?_⟩, ?_⟩
  · intro b hb
    show b < (s.heap.push _).objs.size
    rw [Heap.size_push]
    rcases List.mem_cons.mp hb with rfl | hb
    · exact Nat.lt_succ_self _
    · rw [List.mem_singleton.mp hb]; exact Nat.lt_succ_of_lt Plt
  · intro hm
    exact Nat.lt_irrefl _ ((List.mem_singleton.mp hm) ▸ F.ns.lt)
  · intro C i v s₃ m₃ E' hCs hPv hn hm hk _
    obtain ⟨x, t, rfl⟩ := intsMem hip (by simpa using Array.mem_of_getElem? hPv)
    have K := up hk
    obtain ⟨oC, heC, hoC⟩ := LCg.ns_obj hn
    have C0 : s.heap.get? C = none := by
      cases q : s.heap.get? C with
      | none => rfl
      | some o => have := Heap.lt_size q; rw [Heap.size_push] at hCs; exact absurd (Nat.lt_of_lt_of_le this (Nat.le_of_succ_le hCs)) (Nat.lt_irrefl _)
    have fr := getL_of F C0
    refine wpAny_tests_one (testD hB rfl rfl X T (F.keeps K) (newsOne (fun q hq => (N.grown K) q (Nf q hq)) heC fr.2 fr.1) hoC hm d8 hij fun tk => ⟨rfl, _, tk, rfl, fun _ _ e => e⟩)
  · intro C i v s₃ m₃ E' _ _ _ hn hm _ _
    exact eltDE (L := L) hB rfl rfl hn hm ⟨rfl, _, _, rfl, fun _ _ e => e⟩
  · intro D h' tk ys vs' hnew hlD hplD hlen hP' hF hn' hk
    have e : vs' = pv := by simpa using list_of_places hlen hP'
    subst e
    have keep : ∀ b o, b ≠ L → s.heap.get? b = some o → h'.get? b = some o := fun b o hb e =>
      hk b o hb (fun hm => by rcases List.mem_cons.mp hm with rfl | hm; exact Nat.lt_irrefl _ (Heap.lt_size e); cases hm) (Heap.get?_push_of_some _ e)
    have D0 : s.heap.get? D = none := by
      cases q : s.heap.get? D with
      | none => rfl
      | some o => rw [Heap.get?_push_of_some _ q] at hnew; cases hnew
    have fr := getL_of F D0
    obtain ⟨e, hD⟩ := hplD
    refine hQ D ys.toList h' tk e ⟨hn', fun b o e => keep b o (Nat.ne_of_lt (Nat.lt_of_lt_of_le (Heap.lt_size e) F.above)) (F.keep b o e), F.above⟩ (newsOne (fun q hq => ⟨keep _ _ (N q hq).2.1 (N q hq).1, (N q hq).2⟩) (by rw [Array.toArray_toList]; exact hD) fr.2 fr.1) (filt (fun _ _ h => h) (fun _ _ => rfl) hip hF) D0
end
end Mine
end
theorem Mine.freshC12 : True := by
  w_top off
  trivial
section -- C12
open PySem PySem.W PyProof.Rows PySem.Spec PySem.Calls
namespace Mine
theorem tab0 {P : Addr} {line col : Nat} {q : Str} {h : Heap} (e : h.get? P = some (tabObj #[])) : Tab P line col q h := ⟨#[], e, .inl rfl⟩
theorem rowsLed {g h : Heap} {L : Addr} {refs : List Addr} {rows : List (List Int)} (H : RowsAt h refs rows) (hf : ∀ ra ∈ refs, g.get? ra = none ∧ ra ≠ L) : ∃ led : List (Addr × Obj), News g L h led ∧ (∀ q ∈ led, q.1 ∈ refs) ∧ ∀ h', News g L h' led → RowsAt h' refs rows := by
  have get : ∀ ra ∈ refs, ∃ o, h.get? ra = some o := fun ra hra => by
    obtain ⟨j, hj, e⟩ := List.getElem_of_mem hra
    have hj2 : j < rows.length := by rw [← H.1]; exact hj
    obtain ⟨vs, c, e1, _⟩ := H.2 j ra rows[j] (by rw [List.getElem?_eq_getElem hj, e]) (List.getElem?_eq_getElem hj2)
    exact ⟨_, e1⟩
  refine ⟨refs.filterMap fun ra => (h.get? ra).map fun o => (ra, o), fun q hq => ?_, fun q hq => ?_, fun h' N => ⟨H.1, fun j ra row e1 e2 => ?_⟩⟩
  · obtain ⟨ra, hra, e⟩ := List.mem_filterMap.mp hq
    obtain ⟨o, ho⟩ := get ra hra
    rw [ho] at e
    cases e
    exact ⟨ho, (hf ra hra).2, (hf ra hra).1⟩
  · obtain ⟨ra, hra, e⟩ := List.mem_filterMap.mp hq
    obtain ⟨o, ho⟩ := get ra hra
    rw [ho] at e
    cases e
    exact hra
  · obtain ⟨vs, c, e3, e4⟩ := H.2 j ra row e1 e2
    exact ⟨vs, c, N.get (List.mem_filterMap.mpr ⟨ra, List.mem_of_getElem? e1, by rw [e3]; rfl⟩), e4⟩
theorem neAll {g h : Heap} {L a : Addr} {news : List (Addr × Obj)} (N : News g L h news) (e : h.get? a = none) : ∀ q ∈ news, @Ne Nat q.1 a := fun q hq e' => by
  have := (N q hq).1
  rw [show q.1 = a from e', e] at this; cases this
theorem itemLast {w : World} {A : Around} {E : Value → Shared → Prop} {s : Shared} {value slice : Expr} {a : Addr} {refs : List Addr} {u : Tok} {Q : Value → Shared → Prop} (hl : s.heap.IsList a (refs.map Value.ref).toArray) (h1 : 1 ≤ refs.length) (hb : refs.length ≤ 1000) (h : Q (.ref (refs.getD (refs.length - 1) 0)) s)
    (hs : subscripted slice false (.ref a) (.int (-1) u) = operate [.ref a, .int (-1) u] (getItem (.ref a) (.int (-1) u)) := by with_unfolding_all rfl) (hg : ∀ r, letTemporaryGo value (.ref a) r = pure () := by intro _; with_unfolding_all rfl) :
    wpAny (model prog0 w) A (subscriptTail value slice (.ref a) (.int (-1) u)) Q E s := by
  refine subBack hl (by decide) (by rw [List.length_map]; omega) (by decide) ?_ h hs hg
  rw [List.length_map, show ((-1 : Int) + (refs.length : Int)).toNat = refs.length - 1 by omega, List.getElem?_map, List.getD, List.getElem?_eq_getElem (show refs.length - 1 < refs.length by omega)]
  rfl
theorem ninL {a L : Addr} (h : a ≠ L) : a ∉ [L] := fun q => h (List.mem_singleton.mp q)
theorem frSlots {g h h' : Heap} {L : Addr} {m : Mp} {oL : Obj} {sl : Array (Option Value)} (F : Fr g L h m) (G : Grow [L] h h') (e : h.get? L = some oL) (e' : h'.get? L = some { oL with slots := sl }) : Fr g L h' m := by
  refine ⟨?_, fun b o q => G _ _ (F.keep b o q) (ninL (Nat.ne_of_lt (Nat.lt_of_lt_of_le (Heap.lt_size q) F.above))), F.above⟩
  obtain ⟨o, es, ep, eo, r⟩ := F.ns
  rw [e] at eo; cases eo
  exact ⟨_, es, ep, e', r⟩
section
open PyProof.V PySem.SeqAt
theorem shaped2 (x1 x2 : List Int) : shaped (.tuple [.list (x1.map PyData.int), .list (x2.map PyData.int)]) = true := by
  have h1 := PySem.W.depthAll_ints x1
  have h2 := PySem.W.depthAll_ints x2
  have h3 : PyData.depth (.tuple [.list (x1.map PyData.int), .list (x2.map PyData.int)]) ≤ 64 := by simp only [PyData.depth, PyData.depthAll]; omega
  show (PyData.canLay0 _ && decide _) = true
  rw [Bool.and_eq_true]
  exact ⟨by simp only [PyData.canLay0, PyData.canLayAll0, PySem.W.canLayAll0_ints, Bool.and_self], decide_eq_true h3⟩
theorem eqTup {w : World} {A : Around} {E : Value → Shared → Prop} {s : Shared} {t t2 M U M2 U2 : Addr} {x1 x2 y1 y2 : List Int} {mv uv mv2 uv2 : List Value} {Q : Value → Shared → Prop} (ht : s.heap.get? t = some (tupObj [.ref M, .ref U])) (ht2 : s.heap.get? t2 = some (tupObj [.ref M2, .ref U2]))
    (hM : s.heap.IsList M mv.toArray) (iM : IntsAre mv x1) (hU : s.heap.IsList U uv.toArray) (iU : IntsAre uv x2) (hM2 : s.heap.IsList M2 mv2.toArray) (iM2 : IntsAre mv2 y1) (hU2 : s.heap.IsList U2 uv2.toArray) (iU2 : IntsAre uv2 y2) (hu : A.units + 64 < cLine)
    (h : Q (.bool (decide (x1 = y1) && decide (x2 = y2))) s) : wpAny (model prog0 w) A (compareOp .Eq (.ref t) (.ref t2)) Q E s := by
  refine eq_dataH_same (Reads.tuple ht rfl rfl (ReadsAll.cons (reads_of_ints hM iM) (ReadsAll.cons (reads_of_ints hU iU) .nil))) (Reads.tuple ht2 rfl rfl (ReadsAll.cons (reads_of_ints hM2 iM2) (ReadsAll.cons (reads_of_ints hU2 iU2) .nil))) (shaped2 _ _) (shaped2 _ _) hu ?_ ?_
  · simp only [noMix, noMixAll, PySem.W.noMix_ints, Bool.and_self]
  · simp only [PySem.Spec.same, PySem.Spec.sameAll, PySem.W.same_ints, Bool.and_true]
    exact h
end
section
local macro_rules | `(tactic| walk_at "idle") => `(tactic| fail)
local macro_rules | `(tactic| walk_at "idle") => `(tactic| fail)
local macro_rules | `(tactic| walk_at "idle") => `(tactic| fail)
local macro_rules | `(tactic| walk_at "idle") => `(tactic| fail)
local macro_rules | `(tactic| walk_at "idle") => `(tactic| fail)
local macro_rules | `(tactic| walk_at "idle") => `(tactic| fail)
local macro_rules | `(tactic| walk_at "idle") => `(tactic| fail)
local macro_rules | `(tactic| walk_at "idle") => `(tactic| fail)
local macro_rules | `(tactic| walk_at "idle") => `(tactic| fail)
local macro_rules | `(tactic| walk_at "idle") => `(tactic| fail)
local macro_rules | `(tactic| walk_at "execs cons") => `(tactic| (k_here; (try dsimp only); (try k_fold); (try k_gentoks); refine wpAny_execs_cons ?_; k_fold))
local macro_rules | `(tactic| walk_at "compareOp Eq ref ref") => `(tactic| (refine Hid.out ?_))
local macro_rules | `(tactic| walk_at "subscriptTail Name UnaryOp ref int") => `(tactic| ((with_reducible show wpAny _ _ (subscriptTail _ _ (Value.ref _) (Value.int (-1) _)) _ _ _); k_dflt (refine itemLast (by kmk_list) (by omega) (by omega) ?_)))
local macro_rules | `(tactic| walk_at "call ref") => `(tactic| (refine Hid.out ?_))
local macro_rules | `(tactic| walk_at "exec Assign cons ListComp") => `(tactic| (refine Hid.out ?_))
local macro_rules | `(tactic| walk_at "eval Name") => `(tactic| (k_here; k_dflt (refine' ldLoc (by k_asm) (by assumption) ?_; k_whole)))
set_option maxRecDepth 100000 in
set_option maxHeartbeats 8000000 in
theorem lawBody {w : World} {g : Heap} {p : Program} {loose : List Str} {mean : ExcName → Option Value} {mg mb : Str → Option Value} {s : Shared} {Q : Flow → Shared → Prop} {E : Value → Shared → Prop} {L fa R : Addr} {qual : Str} {cd : Value} {m : Mp}
    {body : List Stmt} {sc : Scope} (hB : body = (fBody lawIn).drop 1) (hS : sc = fScope lawIn) {rv : List Value} {rc : Nat} {ring : List Int} {c1 c2 : Obj} {x1 x2 : Option Value}
    (X : (hd.heap_39 w.params).In g) (T : Top p loose mean mg mb g) (F : Fr g L s.heap m) (mR : m (Str.ofString "ring") = some (.ref R))
    (N : News g L s.heap [(R, listOf rv.toArray rc), (L + 1 + 1, c2), (L + 1, c1), (44, tabObj #[]), (37, tabObj #[])]) (d1 : c1.data = .cell x1) (d2 : c2.data = .cell x2)
    (hir : IntsAre rv ring) (b4 : 4 ≤ ring.length) (b7 : ring.length ≤ 7) (bnd : ∀ e ∈ ring, 1 ≤ e ∧ e ≤ 9) (l1 : @Ne Nat (L + 1 + 1) R ∧ @Ne Nat (L + 1) R ∧ @Ne Nat 44 R ∧ @Ne Nat 37 R) (l2 : @LT.lt Nat _ 44 L ∧ @LT.lt Nat _ 37 L)
    (hret : ∀ h' tk' m', Fr g L h' m' → GrownAt 44 h' ∧ GrownAt 37 h' → Q (.ret (.bool true)) { s with heap := h', toks := tk' }) :
    wpAny (model prog0 w) (callerA.deeper (envOfC qual sc L fa cd)) (execs body (envOfC qual sc L fa cd)) Q E s := by
  revert X; unfold prog0; k_fill; intro X
  conv at hB => rhs; whnf
  conv at hS => rhs; whnf
  subst hB hS
  k_steps
  rename_i h1 o1 F1 N1 dS
  try simp only [List.cons_append, List.nil_append] at N1
  obtain ⟨rows, hrun, r1, r2, r3, hfin⟩ := lawPlain b4 b7 bnd
  refine ⟨?_⟩
  refine lawRead X T F1.keep (N1.fresh (.head _)) (by simp only [depth_deeper]; decide) (by simp only [Around.deeper_units]; decide) rfl (N1.get (.head _)) hir b4 b7 (fun e he => by have := bnd e he; omega) ?_
  intro R2 v2 k2 h2 tk2 st2 fr2 er2 hi2
  have F2 := frStays F1 st2
  have gR2 := getL_of F1 fr2
  have N2 := newsOne (newsStays N1 st2) er2 gR2.2 gR2.1
  have ne2 := neAll N1 fr2
  have a1 := ne2 _ (.head _)
  have a2 := ne2 _ (.tail _ (.head _))
  have a3 := ne2 _ (.tail _ (.tail _ (.head _)))
  have a4 := ne2 _ (.tail _ (.tail _ (.tail _ (.head _))))
  have a5 := ne2 _ (.tail _ (.tail _ (.tail _ (.tail _ (.head _)))))
  dsimp only at a1 a2 a3 a4 a5
  clear F1 N1 ne2
  k_steps
  rename Fr _ _ _ _ => F3
  rename News _ _ _ _ => N3
  refine ⟨?_⟩
  have t44 := N3 (44, tabObj #[]) (by k_mem)
  have t37 := N3 (37, tabObj #[]) (by k_mem)
  refine lawRun X T F3.keep t44.2.2 t37.2.2 (N3.fresh (.head _)) (by simp only [depth_deeper]; decide) rfl (tab0 t44.1) (tab0 t37.1) (N3.get (.head _)) hi2 b4 b7 (fun e he => by have := bnd e he; omega) ?_
  intro r h4 tk4 G4 tD4 tI4 hres
  rw [hrun] at hres
  obtain ⟨ra, refs, e4, rfl, er4, hR4, fr4, frr⟩ := hres
  have F4 := frGrow F3 G4 (fun a ha => by
    rcases List.mem_cons.mp ha with rfl | ha
    · exact ⟨t44.2.2, t44.2.1⟩
    · rw [List.mem_singleton.mp ha]; exact ⟨t37.2.2, t37.2.1⟩)
  have gra := getL_of F3 fr4
  obtain ⟨led, Nl, hl1, hl2, hl3⟩ : ∃ led : List (Addr × Obj), News g L h4 led ∧ (∀ q ∈ led, q.1 ∈ refs ∨ q.1 = 44 ∨ q.1 = 37) ∧ (∀ h', News g L h' led → RowsAt h' refs rows) ∧ ∀ h', News g L h' led → GrownAt 44 h' ∧ GrownAt 37 h' := by
    obtain ⟨led, Nl, hl1, hl2⟩ := rowsLed (g := g) (L := L) hR4 (fun a ha => by
      rcases frr a ha with rfl | h
      · exact ⟨N3.fresh (.head _), (N3 _ (.head _)).2.1⟩
      · exact getL_of F3 h)
    obtain ⟨xD, eD, _⟩ := id tD4
    obtain ⟨xI, eI, _⟩ := id tI4
    refine ⟨(44, tabObj xD) :: (37, tabObj xI) :: led, fun q hq => ?_, fun q hq => ?_, fun h' N => hl2 h' fun q hq => N q (.tail _ (.tail _ hq)), fun h' N => ⟨.of N (.head _), .of N (.tail _ (.head _))⟩⟩
    · revert q
      refine List.forall_mem_cons.mpr ⟨?_, List.forall_mem_cons.mpr ⟨?_, fun q hq => ?_⟩⟩
      · exact ⟨eD, t44.2⟩
      · exact ⟨eI, t37.2⟩
      exact Nl q hq
    · revert q
      refine List.forall_mem_cons.mpr ⟨?_, List.forall_mem_cons.mpr ⟨?_, fun q hq => ?_⟩⟩
      · exact .inr (.inl rfl)
      · exact .inr (.inr rfl)
      exact .inl (hl1 q hq)
  have N4 : News g L h4 ((ra, listOf (List.toArray (refs.map Value.ref)) e4) :: (R, listOf rv.toArray rc) :: (L + 1 + 1, c2) :: (L + 1, o1) :: led) := by
    refine newsOne (fun q hq => ?_) er4 gra.2 gra.1
    revert q
    refine List.forall_mem_cons.mpr ⟨?_, List.forall_mem_cons.mpr ⟨?_, List.forall_mem_cons.mpr ⟨?_, fun q hq => ?_⟩⟩⟩
    · have := N3 (R, listOf rv.toArray rc) (by k_mem)
      exact ⟨G4 _ _ this.1 (fun q => by
        rcases List.mem_cons.mp q with q | q
        · exact l1.2.2.1 (Eq.symm q)
        · exact l1.2.2.2 (Eq.symm (List.mem_singleton.mp q))), this.2⟩
    · have := N3 (L + 1 + 1, c2) (by k_mem)
      exact ⟨G4 _ _ this.1 (nin2 (by dsimp only; omega) (by dsimp only; omega)), this.2⟩
    · have := N3 (L + 1, o1) (by k_mem)
      exact ⟨G4 _ _ this.1 (nin2 (by dsimp only; omega) (by dsimp only; omega)), this.2⟩
    exact Nl q hq
  have ne4 := neAll N3 fr4
  have a6 := ne4 (R, listOf rv.toArray rc) (by k_mem)
  have a7 := ne4 (L + 1 + 1, c2) (by k_mem)
  have a8 := ne4 (L + 1, o1) (by k_mem)
  dsimp only at a6 a7 a8
  have offc : ∀ q ∈ led, q.1 ≠ L + 1 + 1 := fun q hq e => by
    rcases hl1 q hq with hz | hz | hz
    rotate_left 1
    · exact neN (Nat.ne_of_lt (Nat.lt_of_lt_of_le l2.1 (Nat.le_add_right L 2))) (hz.symm.trans e)
    · exact neN (Nat.ne_of_lt (Nat.lt_of_lt_of_le l2.2 (Nat.le_add_right L 2))) (hz.symm.trans e)
    rcases frr q.1 hz with h | h
    · exact a2 (e.symm.trans h)
    · have := (N3 (L + 1 + 1, c2) (by k_mem)).1
      rw [e] at h; exact absurd (this.symm.trans h) (by simp)
  clear F3 N3 ne4
  k_steps
  rename Fr _ _ _ _ => F5
  rename News _ _ _ _ => N5
  refine ⟨?_⟩
  refine lawCut X T F5.keep (by simp only [depth_deeper]; decide) (by simp only [Around.deeper_units]; decide) rfl (News.isList N5 (.tail _ (.head _))) hir b4 b7 (fun e he => by have := bnd e he; omega) ?_
  intro j h6 tk6 st6 hcut
  have F6 := frStays F5 st6
  have N6 := newsStays N5 st6
  have lrf := hR4.1
  have hsz : ((refs.map Value.ref).toArray).size = rows.length := by simp [lrf]
  rcases hfin with ⟨hcl, js, hjs, ljs, lones, hsld⟩ | ⟨hncl, hjn⟩
  · rw [hjs] at hcut
    obtain ⟨ja, jv, ej, rfl, erj, hij, frj⟩ := hcut
    have gj := getL_of F5 frj
    have N7 := newsOne N6 erj gj.2 gj.1
    have ne7 := neAll N5 frj
    have a9 := ne7 _ (.tail _ (.tail _ (.head _)))
    dsimp only at a9
    clear F5 N5 N6
    refine stCN (own := [_, _, _]) (rest := (L + 1, o1) :: led) F6 N7 rfl d2 (List.forall_mem_cons.mpr ⟨Ne.symm a9, List.forall_mem_cons.mpr ⟨Ne.symm a7, List.forall_mem_cons.mpr ⟨neN (by dsimp only; omega), fun _ h => nomatch h⟩⟩⟩) (List.forall_mem_cons.mpr ⟨neN (by dsimp only; omega), offc⟩) ?_
    intro h8 o8 F8 N8 d8
    simp only [List.cons_append, List.nil_append] at N8
    clear F6 N7
    obtain ⟨hlen, hlast⟩ := hcl
    have hlenI : (rows.length : Int) = (ring.length : Int) - 1 := by omega
    k_steps
    try any_goals exact absurd hlenI (by assumption)
    rename Fr _ _ _ _ => F9
    rename News _ _ _ _ => N9
    rename IntsAre _ (List.flatten _) => i1
    refine ⟨?_⟩
    have hRR := hl2 _ (fun q hq => N9 q (.tail _ (.tail _ (.tail _ (.tail _ (.tail _ (.tail _ (.tail _ hq))))))))
    have lst : rows.length - 1 < rows.length := by omega
    obtain ⟨lv, le, le1, le2⟩ := hRR.2 (rows.length - 1) (refs.getD (refs.length - 1) 0) (rows.getD (rows.length - 1) []) (by rw [lrf, List.getD, List.getElem?_eq_getElem (by omega)]; rfl) (by rw [List.getD, List.getElem?_eq_getElem lst]; rfl)
    have erep : (List.replicate ((ring.length : Nat) : Int).toNat [(1 : Int)]).flatten = List.replicate ring.length 1 := by simp
    refine eq_intsK (PySem.IsL.isList (n := le) le1) le2 (News.isList N9 (.head _)) i1 (by simp only [Around.deeper_units]; decide) ?_
    rw [erep, hlast, decide_eq_true rfl]
    k_steps
    rename Fr _ _ _ _ => F10
    rename News _ _ _ _ => N10
    refine ⟨?_⟩
    refine pairsA rfl rfl rfl X T F10 N10 (by k_mem) dS b7 ?_
    intro D1 v1 h11 tk11 F11 N11 i11 fr11
    have N11 : News g L h11 ((D1, listOf v1.toArray v1.length) :: _) := N11
    clear F10 N10
    have pl : (pairsOf ring.length).length ≤ 100 := by
      have h1 : (pairsOf ring.length).length ≤ ring.length * ring.length := outerP_len _ _
      have h2 : ring.length * ring.length ≤ 7 * 7 := Nat.mul_le_mul b7 b7
      omega
    dsimp only
    k_steps
    rename Fr _ _ _ _ => F12
    rename News _ _ _ _ => N12
    refine ⟨?_⟩
    refine dueA rfl rfl rfl X T F12 N12 (if_pos rfl) (.head _) i11 pl (ja := ja) (by k_mem) (by k_mem) d8 hij ?_
    intro D2 v2 h13 tk13 e13 F13 N13 i13 fr13
    clear F12 N12
    dsimp only
    k_steps
    rename Fr _ _ _ _ => F14
    rename News _ _ _ _ => N14
    refine ⟨?_⟩
    have hRR2 := hl2 _ (fun q hq => N14 q (by repeat (first | exact hq | apply List.Mem.tail)))
    refine lawOnes X T F14.keep (by simp only [depth_deeper]; decide) (by simp only [Around.deeper_units]; decide) rfl (News.isList N14 (by k_mem)) hRR2 b4 b7 hlen r3 ?_
    intro O1 ov os oc h15 tk15 st15 fr15 er15 io perm pw
    have F15 := frStays F14 st15
    have gO := getL_of F14 fr15
    have N15 := newsOne (newsStays N14 st15) er15 gO.2 gO.1
    clear F14 N14
    k_steps
    rename Fr _ _ _ _ => F16
    rename News _ _ _ _ => N16
    refine ⟨?_⟩
    obtain ⟨oL, esL, epL, eL, dL, nL⟩ := id F16.ns
    have ol : os.length ≤ 100 := by rw [perm.length_eq]; exact lones
    have gL : g.get? L = none := by
      cases q : g.get? L with
      | none => rfl
      | some o => exact absurd (Nat.lt_of_lt_of_le (Heap.lt_size q) F16.above) (Nat.lt_irrefl _)
    refine sld X T F16.keep (by simp only [depth_deeper]; decide) (by simp only [Around.deeper_units]; decide) rfl rfl ⟨(show ScopeKind.function ≠ ScopeKind.module by decide), rfl, esL, epL, dL⟩ eL gL (News.isList N16 (by k_mem)) i11 (News.isList N16 (.head _)) io pl ol ?_
    intro t M U mv uv cm cu h17 tk17 sl G17 eL17 et eM eU fr17 iM iU
    rw [hsld os perm pw] at iM iU
    have F17 := frSlots F16 G17 eL eL17
    have N17 : News g L h17 _ := fun q hq => ⟨G17 _ _ (N16 q hq).1 (ninL (N16 q hq).2.1), (N16 q hq).2⟩
    have gt := getL_of F16 fr17.1
    have gM := getL_of F16 fr17.2.1
    have gU := getL_of F16 fr17.2.2
    have N18 := newsOne (newsOne (newsOne N17 eU gU.2 gU.1) eM gM.2 gM.1) et gt.2 gt.1
    clear F16 N16 N17
    k_steps
    rename Fr _ _ _ _ => F20
    rename News _ _ _ _ => N20
    refine ⟨?_⟩
    refine eqTup (M := M) (U := U) (M2 := D2) (N20.get (by k_mem)) (N20.get (.head _)) (News.isList N20 (by k_mem)) iM (News.isList N20 (by k_mem)) iU (News.isList N20 (by k_mem)) i13 (uv2 := []) (y2 := []) (News.isList N20 (.tail _ (.head _))) .nil (by simp only [Around.deeper_units]; decide) ?_
    have e9 : (decide (dueOf ring.length js = List.filter (fun x => !js.any fun x_1 => x_1 == x) (pairsOf ring.length)) && decide (([] : List Int) = [])) = true := by simp [dueOf]
    rw [e9]
    exact hret _ _ _ F20 (hl3 _ (fun q hq => N20 q (by repeat (first | exact hq | apply List.Mem.tail))))
  · rw [hjn] at hcut
    subst hcut
    clear F5 N5
    refine stCN (own := [_, _]) (rest := (L + 1, o1) :: led) F6 N6 rfl d2 (List.forall_mem_cons.mpr ⟨Ne.symm a7, List.forall_mem_cons.mpr ⟨neN (by dsimp only; omega), fun _ h => nomatch h⟩⟩) (List.forall_mem_cons.mpr ⟨neN (by dsimp only; omega), offc⟩) ?_
    intro h8 o8 F8 N8 d8
    simp only [List.cons_append, List.nil_append] at N8
    clear F6 N6
    by_cases hlen : rows.length = ring.length - 1
    · have hlenI : (rows.length : Int) = (ring.length : Int) - 1 := by omega
      k_steps
      try any_goals exact absurd hlenI (by assumption)
      rename Fr _ _ _ _ => F9
      rename News _ _ _ _ => N9
      rename IntsAre _ (List.flatten _) => i1
      refine ⟨?_⟩
      have hRR := hl2 _ (fun q hq => N9 q (.tail _ (.tail _ (.tail _ (.tail _ (.tail _ (.tail _ hq)))))))
      have lst : rows.length - 1 < rows.length := by omega
      obtain ⟨lv, le, le1, le2⟩ := hRR.2 (rows.length - 1) (refs.getD (refs.length - 1) 0) (rows.getD (rows.length - 1) []) (by rw [lrf, List.getD, List.getElem?_eq_getElem (by omega)]; rfl) (by rw [List.getD, List.getElem?_eq_getElem lst]; rfl)
      have erep : (List.replicate ((ring.length : Nat) : Int).toNat [(1 : Int)]).flatten = List.replicate ring.length 1 := by simp
      refine eq_intsK (PySem.IsL.isList (n := le) le1) le2 (News.isList N9 (.head _)) i1 (by simp only [Around.deeper_units]; decide) ?_
      rw [erep, decide_eq_false fun q => hncl ⟨hlen, q⟩]
      k_steps
      rename News _ _ _ _ => Nz
      exact hret _ _ _ (by assumption) (hl3 _ (fun q hq => Nz q (by repeat (first | exact hq | apply List.Mem.tail))))
    · have hlenI : ¬ (rows.length : Int) = (ring.length : Int) - 1 := by omega
      k_steps
      all_goals rename News _ _ _ _ => Nz
      all_goals first | exact absurd (by assumption) hlenI | exact hret _ _ _ (by assumption) (hl3 _ (fun q hq => Nz q (by repeat (first | exact hq | apply List.Mem.tail))))
end
end Mine
end
theorem Mine.freshFin : True := by
  w_top off
  trivial
section -- Fin
open PySem PySem.W PyProof.Rows PySem.Spec PySem.Calls
theorem Mine.newsDrop2 {g h : Heap} {L : Addr} {a b c : Addr × Obj} {l : List (Addr × Obj)} (N : News g L h (a :: b :: c :: l)) : News g L h (a :: l) := fun q hq => N q (by
  cases hq with
  | head => exact .head _
  | tail _ hq => exact .tail _ (.tail _ (.tail _ hq)))
theorem Mine.bd4 {l : List Int} (h : decide (l = []) = false) : 4 ≤ (Mine.ringOf (l.take 4)).length ∧ (Mine.ringOf (l.take 4)).length ≤ 7 ∧ ∀ e ∈ Mine.ringOf (l.take 4), 1 ≤ e ∧ e ≤ 9 := by
  have := List.length_pos_iff.mpr (of_decide_eq_false h)
  exact Mine.ringOf_bd (by rw [List.length_take]; omega) (by rw [List.length_take]; omega)
theorem Mine.endBool {c : ClaimW} {cl : Str → Option Addr} {mean : ExcName → Option Value} {args : List WData} {g h : Heap} {L : Addr} {m : Str → Option Value} {ge ge0 : Array GenState} {dr dr0 : Drawn} {tk tk0 : Nat} {os os0 : OsState} (F : Fr g L h m) (hg : ge = #[]) (ho : os = os0)
    (hn : ∀ cls, c.raises args cls = false) (hp : c.post args (.bool true) args = true) : GoodW c cl mean args ⟨g, ge0, dr0, tk0, os0⟩ (.ok (.ret (.bool true))) ⟨h, ge, dr, tk, os⟩ :=
  goodW_bool (s₁ := ⟨g, ge0, dr0, tk0, os0⟩) (s' := ⟨h, ge, dr, tk, os⟩) F hg hn hp ho
section
local macro_rules | `(tactic| walk_at "idle") => `(tactic| fail)
local macro_rules | `(tactic| walk_at "idle") => `(tactic| fail)
local macro_rules | `(tactic| walk_at "idle") => `(tactic| fail)
local macro_rules | `(tactic| walk_at "idle") => `(tactic| fail)
local macro_rules | `(tactic| walk_at "idle") => `(tactic| fail)
local macro_rules | `(tactic| walk_at "idle") => `(tactic| fail)
local macro_rules | `(tactic| walk_at "idle") => `(tactic| fail)
local macro_rules | `(tactic| walk_at "idle") => `(tactic| fail)
local macro_rules | `(tactic| walk_at "idle") => `(tactic| fail)
local macro_rules | `(tactic| walk_at "idle") => `(tactic| fail)
local macro_rules | `(tactic| walk_at "idle") => `(tactic| fail)
local macro_rules | `(tactic| walk_at "idle") => `(tactic| fail)
local macro_rules | `(tactic| walk_at "idle") => `(tactic| fail)
local macro_rules | `(tactic| walk_at "idle") => `(tactic| fail)
local macro_rules | `(tactic| walk_at "idle") => `(tactic| fail)
open Mine
local macro_rules | `(tactic| walk_at "call ref") => `(tactic| (refine Hid.out ?_))
local macro_rules | `(tactic| walk_at "execs cons") => `(tactic| ((with_reducible show wpAny _ _ (execs (Stmt.Assign [Expr.Name "size" _] _ _ :: _) _) _ _ _); refine Hid.out ?_))
set_option maxRecDepth 100000 in
set_option maxHeartbeats 8000000 in
theorem PySem.Challenge.cw_oc0096_01_holds : PySem.Challenge.rw_oc0096_01.Holds := by
  refine hd ?_
  k_go0
  (all_goals try k_fold)
  k_steps
  all_goals rename Frag.In _ _ => X
  all_goals rename Top _ _ _ _ _ _ => T
  all_goals rename Fr _ _ _ _ => F
  all_goals rename News _ _ _ _ => N
  all_goals refine ⟨?_⟩
  · refine lawRing X T F.keep (N.fresh (.head _)) (by simp only [depth_deeper]; decide) (by simp only [Around.deeper_units]; decide) rfl (N.get (.head _)) (.cons _ _ (.cons _ _ (.cons _ _ .nil))) (by decide) ?_
    intro R rv rc h1 tk1 st1 fr1 er1 hir
    have F1 := frStays F st1
    have gR := getL_of F fr1
    have N1 := newsOne (newsStays N st1) er1 gR.2 gR.1
    have q1 := neAll N fr1 _ (.tail _ (.tail _ (.head _)))
    have q2 := neAll N fr1 _ (.tail _ (.tail _ (.tail _ (.head _))))
    have q3 := neAll N fr1 _ (.tail _ (.tail _ (.tail _ (.tail _ (.head _)))))
    have q4 := neAll N fr1 _ (.tail _ (.tail _ (.tail _ (.tail _ (.tail _ (.head _))))))
    have bd := ringOf_bd (nums := [1, 3, 0]) (by decide) (by decide)
    clear F N
    k_steps
    rename Fr _ _ _ _ => F2
    rename News _ _ _ _ => N2
    refine ⟨?_⟩
    refine lawBody rfl rfl X T F2 (if_pos rfl) (newsDrop2 N2) (by assumption) (by assumption) hir bd.1 bd.2.1 bd.2.2 ⟨q1, q2, q3, q4⟩ (by assumption) ?_
    intro h9 tk9 m9 F9 gr
    dsimp only
    refine ⟨?_, gr.1, gr.2, trivial⟩
    refine endBool F9 (by assumption) rfl (raisesW_false (r := PySem.Challenge.rw_oc0096_01.row.toRowW) allW_false_nil) ?_
    wrow_post
  · refine lawRing X T F.keep (N.fresh (.head _)) (by simp only [depth_deeper]; decide) (by simp only [Around.deeper_units]; decide) rfl (N.get (.head _)) (by assumption) (by simp only [List.length_take]; omega) ?_
    intro R rv rc h1 tk1 st1 fr1 er1 hir
    have F1 := frStays F st1
    have gR := getL_of F fr1
    have N1 := newsOne (newsStays N st1) er1 gR.2 gR.1
    have q1 := neAll N fr1 _ (.tail _ (.tail _ (.head _)))
    have q2 := neAll N fr1 _ (.tail _ (.tail _ (.tail _ (.head _))))
    have q3 := neAll N fr1 _ (.tail _ (.tail _ (.tail _ (.tail _ (.head _)))))
    have q4 := neAll N fr1 _ (.tail _ (.tail _ (.tail _ (.tail _ (.tail _ (.head _))))))
    rename decide (_ = []) = false => hne
    have bd := bd4 hne
    clear F N
    k_steps
    rename Fr _ _ _ _ => F2
    rename News _ _ _ _ => N2
    refine ⟨?_⟩
    refine lawBody rfl rfl X T F2 (if_pos rfl) (newsDrop2 N2) (by assumption) (by assumption) hir bd.1 bd.2.1 bd.2.2 ⟨q1, q2, q3, q4⟩ (by assumption) ?_
    intro h9 tk9 m9 F9 gr
    dsimp only
    refine ⟨?_, gr.1, gr.2, trivial⟩
    refine endBool F9 (by assumption) rfl (raisesW_false (r := PySem.Challenge.rw_oc0096_01.row.toRowW) allW_false_nil) ?_
    wrow_post
end
end
