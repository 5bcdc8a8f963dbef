import PyProof.Rows.All
import Wide.All
import OpenK.AllK
import Wide.FinOn
import PySem.Challenge.RW_pk0059_01
open PySem PySem.W PyProof.Rows
set_option Elab.async false
set_option maxRecDepth 100000
set_option maxHeartbeats 8000000
namespace Mine
open_top hd for PySem.Challenge.rw_pk0059_01
end Mine
set_option maxHeartbeats 8000000
namespace Mine
abbrev pr : Program := PySem.Challenge.rw_pk0059_01.row.prog
noncomputable abbrev KF (w : World) : Frag := hd.heap_39 w.params

/-- all that stood stands, but at X -/
def Kp (X : List Addr) (h h' : Heap) : Prop := ∀ b o, b ∉ X → h.get? b = some o → h'.get? b = some o
theorem Kp.refl (X : List Addr) (h : Heap) : Kp X h h := fun _ _ _ e => e
theorem Kp.trans {X : List Addr} {h h' h'' : Heap} (a : Kp X h h') (b : Kp X h' h'') : Kp X h h'' := fun c o n e => b c o n (a c o n e)
theorem Kp.mono {X Y : List Addr} {h h' : Heap} (a : Kp X h h') (s : ∀ b ∈ X, b ∈ Y) : Kp Y h h' := fun c o n e => a c o (fun m => n (s c m)) e
theorem Kp.same {a : Addr} {h h' : Heap} (s : Heap.SameBut a h h') : Kp [a] h h' := fun b o n e => s.extBut b o (fun q => n (by rw [q]; exact .head _)) e
theorem Kp.ext {a : Addr} {h h' : Heap} (s : Heap.ExtBut a h h') : Kp [a] h h' := fun b o n e => s b o (fun q => n (by rw [q]; exact .head _)) e
theorem Kp.push (X : List Addr) (h : Heap) (o : Obj) : Kp X h (h.push o) := fun _ _ _ e => Heap.get?_push_of_some _ e
theorem Kp.of {X : List Addr} {h h' : Heap} (k : ∀ b o, h.get? b = some o → h'.get? b = some o) : Kp X h h' := fun b o _ e => k b o e
theorem Kp.all {h h' : Heap} (k : Kp [] h h') : ∀ b o, h.get? b = some o → h'.get? b = some o := fun b o e => k b o (fun m => nomatch m) e

abbrev upd (m : Str → Option Value) (x : Str) (v : Value) : Str → Option Value := fun y => if y = x then some v else m y
theorem upd_eq {m : Str → Option Value} {x : Str} {v : Value} : upd m x v x = some v := if_pos rfl
theorem upd_ne {m : Str → Option Value} {x y : Str} {v : Value} {r : Option Value} (h : m y = r) (n : (y == x) = false) : upd m x v y = r := (if_neg (beq_eq_false_iff_ne.mp n)).trans h

/-- room for d calls -/
structure Ok (A : Around) (d : Nat) : Prop where
  hd : A.handled = none
  dp : A.depth + d < recursionLimit
  un : A.units + 20 * d < cLine
theorem Ok.deeper {A : Around} {d : Nat} (env : Env) (k : Ok A (d + 1)) : Ok (A.deeper env) d := ⟨k.hd, by have := k.dp; show A.depth + 1 + d < _; lia, by have := k.un; show A.units + 3 + 20 * d < _; lia⟩
theorem Ok.less {A : Around} {d e : Nat} (k : Ok A d) (h : e ≤ d) : Ok A e := ⟨k.hd, by have := k.dp; lia, by have := k.un; lia⟩
theorem Ok.room {A : Around} {d : Nat} (k : Ok A d) : A.depth < recursionLimit := by have := k.dp; lia
theorem Ok.units {A : Around} {d : Nat} (k : Ok A d) : A.units < cLine := by have := k.un; lia

/-- the top's facts -/
structure Tp (w : World) (h : Heap) : Prop where
  K : (KF w).In h
  g : ∃ mg, h.Ns mainGlobals mg
  b : ∃ mb, h.Ns builtinsNs mb ∧ ∀ x : Str, x ≠ "__name__" → mb x = bootBuiltins x
  nl : h.NoLimit
  bm : ∃ o, h.get? 4 = some o ∧ o.cls = .type "module" ∧ o.dict = some builtinsNs ∧ o.data = .plain

theorem keysK (w : World) : (KF w).map (·.1) = [2, 3, 6, 15, 17, 18, 20, 21, 22, 24, 25, 27, 28, 29, 31, 32, 34, 35, 36, 38, 39, 41, 42, 50, 52, 53, 55, 56, 57, 59, 60, 62, 63, 64, 66, 67, 69, 70, 71, 72, 73, 74, 75, 78, 81, 82, 83, 85, 86, 88, 89, 90, 93, 94, 95, 98, 99, 100, 103, 104, 105, 108, 109, 110, 113, 114] := by kernel_rfl
theorem lowK {w : World} {a : Addr} {o : Obj} (e : (KF w).lookup a = some o) : a < 115 ∧ a ≠ 91 := by
  have h : a ∈ (KF w).map (·.1) := List.mem_map.mpr ⟨(a, o), mem_of_lookupK e, rfl⟩
  rw [keysK] at h
  have q : ∀ b ∈ ([2, 3, 6, 15, 17, 18, 20, 21, 22, 24, 25, 27, 28, 29, 31, 32, 34, 35, 36, 38, 39, 41, 42, 50, 52, 53, 55, 56, 57, 59, 60, 62, 63, 64, 66, 67, 69, 70, 71, 72, 73, 74, 75, 78, 81, 82, 83, 85, 86, 88, 89, 90, 93, 94, 95, 98, 99, 100, 103, 104, 105, 108, 109, 110, 113, 114] : List Nat), b < 115 ∧ b ≠ 91 := by decide
  exact q a h
/-- addresses that the top's facts do not lean on -/
def Far (Z : List Addr) : Prop := ∀ b ∈ Z, 115 ≤ b ∨ b = 91
theorem Far.not {Z : List Addr} (f : Far Z) {a : Addr} (h1 : a < 115) (h2 : a ≠ 91) : a ∉ Z := fun q => by
  rcases f a q with h | h
  · exact absurd h1 (Nat.not_lt.mpr h)
  · exact h2 h
theorem Tp.kp {w : World} {h h' : Heap} {Z : List Addr} (T : Tp w h) (k : Kp Z h h') (f : Far Z) : Tp w h' where
  K := fun a o e => k a o (f.not (lowK e).1 (lowK e).2) (T.K a o e)
  g := let ⟨mg, G⟩ := T.g; ⟨mg, G.at' fun o e => k _ o (f.not (by decide) (by decide)) e⟩
  b := let ⟨mb, G, r⟩ := T.b; ⟨mb, G.at' fun o e => k _ o (f.not (by decide) (by decide)) e, r⟩
  nl := let ⟨mc, G, r⟩ := T.nl; ⟨mc, G.at' fun o e => k _ o (f.not (by decide) (by decide)) e, r⟩
  bm := let ⟨o, e, r⟩ := T.bm; ⟨o, k _ o (f.not (by decide) (by decide)) e, r⟩
theorem Tp.size {w : World} {h : Heap} (T : Tp w h) : 115 ≤ h.objs.size := Heap.lt_size (T.K 114 _ rfl)
theorem Far.one {a : Addr} (h : 115 ≤ a) : Far [a] := fun b hb => by rw [List.mem_singleton.mp hb]; exact .inl h
theorem Far.nil : Far [] := fun _ q => nomatch q
/-- a body at its work -/
structure Bd (X : List Addr) (h₀ : Heap) (env : Env) (m cm : Str → Option Value) (h : Heap) : Prop where
  ns : h.Ns env.locals m
  cell : ∀ n c, env.cells.lookup n = some c → h.IsCell c (cm n)
  apart : env.cells.Pairwise fun x y => x.2 ≠ y.2
  above : ∀ n c, (n, c) ∈ env.cells → env.locals < c
  keep : Kp X h₀ h
  fresh : h₀.objs.size ≤ env.locals
  nd : (env.cells.map (·.1)).Nodup
theorem Bd.of {s₀ s : Shared} {env : Env} {m cm : Str → Option Value} (X : List Addr) (x : InCallC s₀ env.locals m env.cells cm s) (nd : (env.cells.map (·.1)).Nodup) : Bd X s₀.heap env m cm s.heap :=
  ⟨x.toInCall.ns, x.cell, x.apart, x.above, Kp.of x.toInCall.keep, x.toInCall.fresh, nd⟩

section
variable {w : World} {A : Around} {s : Shared}
theorem enter {R : Result → Shared → Prop} {a : Addr} {o : Obj} {fd : FuncData} {body : List Stmt} {vals : List Value} {binds : List (Str × Value)} {d : Nat}
    (T : Tp w s.heap) (k : Ok A (d + 1)) (ho : (KF w).lookup a = some o) (hdata : o.data = .func fd) (hcd : codeIn (KF w) fd.code fd.qualname = true)
    (hbody : fd.body = .stmts body) (hbind : bindArgs fd ⟨vals, []⟩ = pure binds) (hclo : fd.closure = [])
    (hkind : (binds.all fun y => fd.scope.names.lookup y.1 == some .local || fd.scope.names.lookup y.1 == some .cell) = true)
    (hnd : ((cellsFrom 0 fd.scope.names []).map (·.1)).Nodup)
    (h : ∀ h₁ tk A' E', Ok A' d → let env := callEnvC fd s.heap.objs.size a; Bd [] s.heap env (bindL env.kindOf binds fun _ => none) (bindC env.kindOf binds fun _ => none) h₁ →
      wpAny (model pr w) A' (execs body env) (fun f s' => R (.ok (.ret (match f with | .ret v => v | _ => .none))) s') E' { s with heap := h₁, toks := tk })
    (hco : fd.scope.isCoroutine = false := by rfl) (hgen : fd.scope.isGenerator = false := by rfl) (hk : fd.scope.kind = .function := by rfl) :
    codeAny (model pr w) A (.call (.ref a) ⟨vals, []⟩) R s := by
  refine codeAny_call_cells k.room (T.K _ _ ho) hdata T.nl (codeRec_of T.K hcd) hbody hbind hclo (kindsX hkind _) (fun s₁ x => ?_) hco hgen hk
  obtain ⟨h₁, tk, rfl⟩ := x.toInCall.same
  exact h h₁ tk _ _ (k.deeper _) (Bd.of [] x (cellsFrom_names fd.scope.names 0 (s.heap.objs.size + 1) [] [] rfl ▸ hnd))
end

theorem mg_no {K : Frag} {h : Heap} {mg : Str → Option Value} {n : Str} (X : K.In h) (G : h.Ns mainGlobals mg) (e : nsIn K mainGlobals n = some none) : mg n = none := by
  obtain ⟨o, es, ep, ho, hd, _, hf⟩ := G
  unfold nsIn at e
  split at e
  · rename_i c d es' n' sl q
    have := X _ _ q
    rw [ho] at this
    cases this
    cases hd
    split at e
    · cases e
    · rename_i q2
      rw [← hf, nsFind, findBy]
      rw [← Array.find?_toList] at *
      rw [q2]; rfl
  · cases e

section
variable {w : World} {A : Around} {E : Value → Shared → Prop} {s : Shared} {env : Env} {X : List Addr} {h₀ : Heap} {m cm : Str → Option Value}
theorem ldL {x : Str} {pos : Pos} {v : Value} {Q : Value → Shared → Prop} (B : s.heap.Ns env.locals m) (hv : m x = some v) (h : Q v s) (hk : env.scope.kind = .function := by rfl) (hl : env.kindOf x = some .local := by rfl) (hd : (x == ("__debug__" : Str)) = false := by rfl) :
    wpAny (model pr w) A (eval (.Name x pos) env) Q E s := wpAny_Name (wpAny_loadName_local hk hl B hv h) hd
theorem ldn {x : Str} {v : Value} {Q : Value → Shared → Prop} (B : s.heap.Ns env.locals m) (hv : m x = some v) (h : Q v s) (hk : env.scope.kind = .function := by rfl) (hl : env.kindOf x = some .local := by rfl) :
    wpAny (model pr w) A (loadName env x) Q E s := wpAny_loadName_local hk hl B hv h
theorem ldC {x : Str} {c : Addr} {pos : Pos} {v : Value} {Q : Value → Shared → Prop} (hv : s.heap.IsCell c (some v)) (h : Q v s) (hc : env.cells.lookup x = some c := by rfl) (hk : env.scope.kind = .function := by rfl) (hl : env.kindOf x = some .cell := by rfl) (hd : (x == ("__debug__" : Str)) = false := by rfl) :
    wpAny (model pr w) A (eval (.Name x pos) env) Q E s := wpAny_Name (wpAny_loadName_cell hk hl hc hv h) hd
theorem ldF {x : Str} {pos : Pos} {v : Value} {Q : Value → Shared → Prop} (T : Tp w s.heap) (e : nsIn (KF w) mainGlobals x = some (some v)) (h : Q v s) (hg : env.globals = mainGlobals := by rfl) (hk : env.scope.kind = .function := by rfl) (hl : env.kindOf x = some .globalImplicit := by rfl) (hd : (x == ("__debug__" : Str)) = false := by rfl) :
    wpAny (model pr w) A (eval (.Name x pos) env) Q E s := by
  obtain ⟨mg, G⟩ := T.g
  exact Calls.Name_function_global hk hl (Calls.loadGlobal_global (by rw [hg]; exact G) (mg_of T.K G e) h) hd
theorem ldB {x : Str} {pos : Pos} {v : Value} {Q : Value → Shared → Prop} (T : Tp w s.heap) (e : nsIn (KF w) mainGlobals x = some none) (hv : bootBuiltins x = some v) (h : Q v s) (hn : x ≠ "__name__" := by decide) (hg : env.globals = mainGlobals := by rfl) (hb : env.builtins = builtinsNs := by rfl) (hk : env.scope.kind = .function := by rfl) (hl : env.kindOf x = some .globalImplicit := by rfl) (hd : (x == ("__debug__" : Str)) = false := by rfl) :
    wpAny (model pr w) A (eval (.Name x pos) env) Q E s := by
  obtain ⟨mg, G⟩ := T.g
  obtain ⟨mb, Bb, hmb⟩ := T.b
  exact Calls.Name_function_global hk hl (Calls.loadGlobal_builtin (by rw [hg]; exact G) (mg_no T.K G e) (by rw [hb]; exact Bb) ((hmb x hn).trans hv) h) hd

/-- what a body owns -/
abbrev own (env : Env) : List Addr := env.locals :: env.cells.map (·.2)
theorem Bd.stay {h h' : Heap} (B : Bd X h₀ env m cm h) {Y : List Addr} (k : Kp Y h h') (n : ∀ b ∈ own env, b ∉ Y) (n0 : ∀ b ∈ Y, b ∉ X → h₀.get? b = none) : Bd X h₀ env m cm h' where
  ns := B.ns.at' fun o e => k _ o (n _ (.head _)) e
  cell := fun x c hc => let ⟨o, ho, hd⟩ := B.cell x c hc; ⟨o, k c o (n c (.tail _ (List.mem_map.mpr ⟨(x, c), mem_of_lookup hc, rfl⟩))) ho, hd⟩
  apart := B.apart
  above := B.above
  keep := fun b o hb e => k b o (fun q => by rw [n0 b q hb] at e; cases e) (B.keep b o hb e)
  fresh := B.fresh
  nd := B.nd
theorem Bd.keeps {h h' : Heap} (B : Bd X h₀ env m cm h) (k : Kp [] h h') : Bd X h₀ env m cm h' := B.stay k (fun _ _ q => nomatch q) (fun _ q => nomatch q)
theorem Bd.ownNew {h : Heap} (B : Bd X h₀ env m cm h) : ∀ b ∈ own env, h₀.objs.size ≤ b := fun b hb => by
  rcases List.mem_cons.mp hb with rfl | hb
  · exact B.fresh
  · obtain ⟨⟨n, c⟩, hc, rfl⟩ := List.mem_map.mp hb
    exact Nat.le_trans B.fresh (Nat.le_of_lt (B.above n c hc))
theorem Bd.stL {x : Str} {v : Value} {Q : Unit → Shared → Prop} (B : Bd X h₀ env m cm s.heap) (h : ∀ h', Bd X h₀ env (upd m x v) cm h' → Kp (own env) s.heap h' → Q () { s with heap := h', toks := s.toks + 1 })
    (hk : env.scope.kind = .function := by rfl) (hl : env.kindOf x = some .local := by rfl) : wpAny (model pr w) A (storeName env x v) Q E s :=
  wpAny_storeName_local hl B.ns (fun h' hn hs => h h'
    { ns := hn
      cell := fun y c hc => (B.cell y c hc).sameBut hs (Nat.ne_of_gt (B.above y c (mem_of_lookup hc)))
      apart := B.apart
      above := B.above
      keep := fun b o hb e => hs.extBut b o (Nat.ne_of_lt (Nat.lt_of_lt_of_le (Heap.lt_size e) B.fresh)) (B.keep b o hb e)
      fresh := B.fresh
      nd := B.nd } ((Kp.same hs).mono fun b hb => by rw [List.mem_singleton.mp hb]; exact .head _)) (by rw [hk]; rfl)
theorem Bd.stC {x : Str} {c : Addr} {v : Value} {Q : Unit → Shared → Prop} (B : Bd X h₀ env m cm s.heap) (h : ∀ h', Bd X h₀ env m (upd cm x v) h' → Kp (own env) s.heap h' → Q () { s with heap := h' })
    (hc : env.cells.lookup x = some c := by rfl) (hk : env.scope.kind = .function := by rfl) (hl : env.kindOf x = some .cell := by rfl) : wpAny (model pr w) A (storeName env x v) Q E s :=
  have hLc := B.above x c (mem_of_lookup hc)
  wpAny_storeName_cell hk hl hc (B.cell x c hc) fun h' hc' hs => h h'
    { ns := B.ns.sameBut hs (Nat.ne_of_lt hLc)
      cell := fun y c' hy => by
        by_cases q : y = x
        · subst q
          rw [hc] at hy; cases hy
          simpa [upd] using hc'
        · simp only [upd, if_neg q]
          exact (B.cell y c' hy).sameBut hs fun e => q (name_of_addr B.apart (mem_of_lookup hy) (e ▸ mem_of_lookup hc))
      apart := B.apart
      above := B.above
      keep := fun b o hb e => hs.extBut b o (Nat.ne_of_lt (Nat.lt_trans (Nat.lt_of_lt_of_le (Heap.lt_size e) B.fresh) hLc)) (B.keep b o hb e)
      fresh := B.fresh
      nd := B.nd } ((Kp.same hs).mono fun b hb => by rw [List.mem_singleton.mp hb]; exact .tail _ (List.mem_map.mpr ⟨(x, c), mem_of_lookup hc, rfl⟩))
end
theorem hideQ {M : Model} {A : Around} {t : Sem Flow} {s : Shared} {Q : Flow → Shared → Prop} {E : Value → Shared → Prop} (H : ∀ Q' : Flow → Shared → Prop, (∀ f s', Q f s' → Q' f s') → wpAny M A t Q' E s) : wpAny M A t Q E s := H Q fun _ _ h => h
theorem cut {P : Shared → Prop} {h : Heap} {g : Array GenState} {d : Drawn} {t : Nat} {o : OsState} (H : ∀ t, P ⟨h, g, d, t, o⟩) : P ⟨h, g, d, t, o⟩ := H t
theorem hideV {M : Model} {A : Around} {t : Sem Value} {s : Shared} {Q : Value → Shared → Prop} {E : Value → Shared → Prop} (H : ∀ Q' : Value → Shared → Prop, (∀ v s', Q v s' → Q' v s') → wpAny M A t Q' E s) : wpAny M A t Q E s := H Q fun _ _ h => h
end Mine
set_option maxHeartbeats 8000000
namespace Mine
inductive ForOk (w : World) (A : Around) (env : Env) (x : Str) (body : List Stmt) (Q : Flow → Shared → Prop) (it : Value) (s₂ : Shared) : Prop
  | mk (I : Addr) (fp wr : List Addr) (n : Nat) (P : Nat → Value → Prop) (St : Nat → Heap → Prop) (J : Nat → Shared → Prop) (e : it = .ref I) (W : Walks pr w A I fp wr n P St) (st : St 0 s₂.heap) (j : J 0 s₂)
    (item : ∀ (i : Nat) (v : Value) (h' : Heap) (tk : Nat) (s : Shared) (E' : Value → Shared → Prop), i < n → St i s.heap → J i s → P i v → St (i + 1) h' → Kp wr s.heap h' →
        wpAny (model pr w) A (storeName env x v) (fun _ s₂ => wpAny (model pr w) A (execs body env) (fun f s₃ => match f with
          | .next | .cont => St (i + 1) s₃.heap ∧ J (i + 1) s₃
          | .brk => Q .next s₃
          | .ret u => Q (.ret u) s₃) E' s₂) E' { s with heap := h', toks := tk })
    (fin : ∀ (s : Shared) (h' : Heap) (tk : Nat), St n s.heap → J n s → Kp wr s.heap h' → Q .next { s with heap := h', toks := tk }) : ForOk w A env x body Q it s₂
inductive AppOk (w : World) (A : Around) (env : Env) (elt : Expr) (Q : Flow → Shared → Prop) (E : Value → Shared → Prop) (ov : Value) (s₁ : Shared) : Prop
  | mk (D : Addr) (its : Array Value) (e : ov = .ref D) (l : s₁.heap.PlainList D its)
    (h : wpAny (model pr w) A (eval elt env) (fun y s₂ => ∃ its₂, s₂.heap.PlainList D its₂ ∧ its₂.size ≤ sizeLine ∧ ∀ h', h'.PlainList D (its₂.push y) → Kp [D] s₂.heap h' → Q .next { s₂ with heap := h' }) E s₁) : AppOk w A env elt Q E ov s₁
section
variable {w : World} {A : Around} {E : Value → Shared → Prop} {s : Shared} {env : Env}
/-- a for over what walks -/
theorem forW {x : Str} {px : Pos} {body : List Stmt} {I : Addr} {fp wr : List Addr} {n : Nat} {P : Nat → Value → Prop} {St : Nat → Heap → Prop} (J : Nat → Shared → Prop) {Q : Flow → Shared → Prop} {R : Result → Shared → Prop}
    (W : Walks pr w A I fp wr n P St)
    (item : ∀ (i : Nat) (v : Value) (h' : Heap) (tk : Nat) (s : Shared) (E' : Value → Shared → Prop), i < n → St i s.heap → J i s → P i v → St (i + 1) h' → Kp wr s.heap h' →
      wpAny (model pr w) A (storeName env x v) (fun _ s₂ => wpAny (model pr w) A (execs body env) (fun f s₃ => match f with
        | .next | .cont => St (i + 1) s₃.heap ∧ J (i + 1) s₃
        | .brk => Q .next s₃
        | .ret u => Q (.ret u) s₃) E' s₂) E' { s with heap := h', toks := tk })
    (fin : ∀ s h' tk, St n s.heap → J n s → Kp wr s.heap h' → Q .next { s with heap := h', toks := tk })
    (hR : ∀ f s, Q f s → R (.ok f) s)
    (h0 : St 0 s.heap) (j0 : J 0 s) : codeAny (model pr w) A (.forLoop (.Name x px) (.ref I) body [] env) R s := by
  refine codeAny_forLoop (fun k s' => ∃ i, i ≤ n ∧ k = n + 1 - i ∧ St i s'.heap ∧ J i s') ?_ (n + 1) ⟨0, Nat.zero_le _, rfl, h0, j0⟩
  rintro k s' ⟨i, hi, rfl, hst, hj⟩
  by_cases hlt : i < n
  · refine W.item i s' _ _ hlt hst fun v h' tk hP hst' hk => ?_
    refine wpAny_assign_Name (wpAny_mono (item i v h' tk s' _ hlt hst hj hP hst' hk) (fun _ s₂ h₂ => wpAny_mono h₂ (fun f s₃ h₃ => ?_) fun _ _ e => e) fun _ _ e => e)
    cases f with
    | next => exact ⟨n + 1 - (i + 1), by omega, i + 1, hlt, rfl, h₃⟩
    | cont => exact ⟨n + 1 - (i + 1), by omega, i + 1, hlt, rfl, h₃⟩
    | brk => exact hR _ _ h₃
    | ret u => exact hR _ _ h₃
  · obtain rfl : i = n := Nat.le_antisymm hi (Nat.not_lt.mp hlt)
    exact W.done s' _ _ hst fun h' tk hk => wpAny_execs_nil (hR _ _ (fin s' h' tk hst hj hk))
theorem For_ {x : Str} {px pos : Pos} {iter : Expr} {body : List Stmt} {Q : Flow → Shared → Prop}
    (h : wpAny (model pr w) A (eval iter env) (fun xv s₁ => wpAny (model pr w) A (pyIter xv) (fun it s₂ => ForOk w A env x body Q it s₂) E s₁) E s)
    (hs : ∀ x, foldedSetIterable iter env x = pure x := by intro _; rfl) : wpAny (model pr w) A (exec (.For (.Name x px) iter body [] pos) env) Q E s := by
  refine wpAny_For (wpAny_mono h (fun xv s₁ h₁ => wpAny_mono h₁ (fun it s₂ h₂ => ?_) fun _ _ e => e) fun _ _ e => e) hs
  obtain ⟨I, fp, wr, n, P, St, J, rfl, W, st, j, item, fin⟩ := h₂
  exact forW J W item fin (fun _ _ q => q) st j
theorem Append_ {o elt : Expr} {apos pos spos : Pos} {Q : Flow → Shared → Prop}
    (h : wpAny (model pr w) A (eval o env) (fun ov s₁ => AppOk w A env elt Q E ov s₁) E s)
    (hi : interactive env = false := by rfl)
    (hbase : attributeBase o "append" env (eval o env) = eval o env := by rfl)
    (hfew : ((backTo pos (starEach [elt] env)).all (fun x => !x.1) && (backToKw pos (keywordEach [] env)).all (fun x => x.1.isSome)
      && decide (([elt] : List Expr).length + ([] : List Keyword).length + (if ([] : List Keyword).isEmpty then 0 else 1) < 30)) = true := by rfl)
    (hline : (apos.endLine == pos.line) = true := by rfl)
    (htrees : backTo pos (starEach [elt] env) = [(false, eval elt env)] := by rfl) :
    wpAny (model pr w) A (exec (.Expr (.Call (.Attribute o "append" apos) [elt] [] pos) spos) env) Q E s := by
  refine wpAny_Expr (wpAny_Call_append hbase hfew hline htrees (wpAny_mono h (fun ov s₁ h₁ => ?_) fun _ _ e => e)) hi
  obtain ⟨D, its, rfl, ⟨n, hD⟩, h₁⟩ := h₁
  refine ⟨D, its, rfl, ⟨_, n, hD, rfl, rfl, rfl⟩, wpAny_mono h₁ (fun y s₂ h₂ => ?_) fun _ _ e => e⟩
  obtain ⟨its₂, hD₂, hsz, q⟩ := h₂
  exact wpAny_list_append_plain (hsz := hsz) hD₂ fun h' hp hs => q h' hp (Kp.same hs)
theorem kpL {h h' : Heap} {a : Addr} {its : Array Value} {X : List Addr} (x : h.PlainList a its) (k : Kp X h h') (n : a ∉ X) : h'.PlainList a its := x.at fun o e => k a o n e
theorem Bd.lt {X : List Addr} {h₀ h : Heap} {m cm : Str → Option Value} (B : Bd X h₀ env m cm h) : ∀ b ∈ own env, b < h.objs.size := fun b hb => by
  rcases List.mem_cons.mp hb with rfl | q
  · exact B.ns.lt
  · obtain ⟨⟨n, c⟩, hc, rfl⟩ := List.mem_map.mp q
    exact (B.cell n c (lookup_of_mem_nodup B.nd hc)).lt
theorem Bd.new {X : List Addr} {h₀ h : Heap} {m cm : Str → Option Value} (B : Bd X h₀ env m cm h) {a : Addr} (ha : h.objs.size ≤ a) : a ∉ own env := fun q => Nat.lt_irrefl _ (Nat.lt_of_lt_of_le (B.lt a q) ha)
theorem Bd.none {X : List Addr} {h₀ h : Heap} {m cm : Str → Option Value} (B : Bd X h₀ env m cm h) {a : Addr} (ha : h.objs.size ≤ a) : h₀.get? a = none := by
  cases e : h₀.get? a with
  | none => rfl
  | some o => exact absurd (Nat.lt_of_lt_of_le (Heap.lt_size e) (Nat.le_trans (Nat.le_trans B.fresh (Nat.le_of_lt B.ns.lt)) ha)) (Nat.lt_irrefl _)
theorem notMem1 {a b : Addr} (h : a ≠ b) : a ∉ [b] := fun q => h (List.mem_singleton.mp q)
theorem Bd.stay1 {X : List Addr} {h₀ h h' : Heap} {m cm : Str → Option Value} {a : Addr} (B : Bd X h₀ env m cm h) (k : Kp [a] h h') (n : a ∉ own env) (n0 : h₀.get? a = .none) : Bd X h₀ env m cm h' :=
  B.stay k (fun b hb q => n (by rw [← List.mem_singleton.mp q]; exact hb)) (fun b q _ => by rw [List.mem_singleton.mp q]; exact n0)
theorem Bd.apart_list {X : List Addr} {h₀ h : Heap} {m cm : Str → Option Value} (B : Bd X h₀ env m cm h) {a : Addr} {o : Obj} (e : h.get? a = some o) (hd : (match o.data with | .dict .. => false | .cell .. => false | _ => true) = true) : a ∉ own env := by
  intro q
  rcases List.mem_cons.mp q with rfl | q
  · obtain ⟨o', es, ep, ho, hd', _⟩ := B.ns
    rw [e] at ho; cases ho
    rw [hd'] at hd; cases hd
  · obtain ⟨⟨n, c⟩, hc, rfl⟩ := List.mem_map.mp q
    obtain ⟨o', ho, hd'⟩ := B.cell n c (lookup_of_mem_nodup B.nd hc)
    rw [e] at ho; cases ho
    rw [hd'] at hd; cases hd
end
end Mine
set_option maxHeartbeats 8000000
namespace Mine
section
variable {w : World} {A : Around} {E : Value → Shared → Prop} {s : Shared} {env : Env}
abbrev testsOf (ifs : List Expr) (env : Env) : Sem Bool := forIn ifs true fun c r => if r = true then do let ok ← isTrue c env (eval c env); pure (ForInStep.yield ok) else pure (ForInStep.yield r)
/-- a comprehension's loop: the elements may be new objects -/
theorem compF {elt iter : Expr} {x : Str} {px : Pos} {ifs : List Expr} {scope : Scope} {cl : List (Str × Addr)} {pos : Pos} {s₂ : Shared} {I : Addr} {fp wr : List Addr} {n : Nat} {P : Nat → Value → Prop}
    {St : Nat → Heap → Prop} (W : Walks pr w A I fp wr n P St) (hsz : n ≤ sizeLine) (p : Value → Bool) (F : Heap → Value → Value → Prop) {RR : Value → Addr → Result → Shared → Prop}
    (mono : ∀ Z h h' v y, (∀ b ∈ Z, b < s₂.heap.objs.size + 2) → Kp Z h h' → F h v y → F h' v y)
    (hcell : ∀ y ∈ scope.names, y.2 ≠ .cell) (hkind : scope.kind = .function) (hx : scope.names.lookup x = some .local) (hst : St 0 s₂.heap) (hfp : ∀ b ∈ fp, b < s₂.heap.objs.size)
    (tests : ∀ C i v s₃ m₃ E', s₂.heap.objs.size ≤ C → P i v → s₃.heap.Ns C m₃ → m₃ x = some v → Kp wr s₂.heap s₃.heap → s₂.heap.objs.size + 2 ≤ s₃.heap.objs.size → (∃ h tk, s₃ = { s₂ with heap := h, toks := tk }) →
      wpAny (model pr w) A (testsOf ifs (compEnvC scope cl C env)) (fun ok s₄ => ok = p v ∧ Keeps s₃ s₄) E' s₃)
    (elt' : ∀ C i v s₃ m₃ E', s₂.heap.objs.size ≤ C → P i v → p v = true → s₃.heap.Ns C m₃ → m₃ x = some v → Kp wr s₂.heap s₃.heap → s₂.heap.objs.size + 2 ≤ s₃.heap.objs.size → (∃ h tk, s₃ = { s₂ with heap := h, toks := tk }) →
      wpAny (model pr w) A (eval elt (compEnvC scope cl C env)) (fun y s₄ => F s₄.heap v y ∧ Keeps s₃ s₄) E' s₃)
    (hRR : ∀ D C h' tk m' ys (vs : List Value), D = s₂.heap.objs.size → C = s₂.heap.objs.size + 1 → h'.Ns C m' → h'.PlainList D ys → vs.length = n → (∀ j v, vs[j]? = some v → P j v) → Paired (F h') (vs.filter p) ys.toList →
      Kp wr s₂.heap h' → RR (.ref D) C (.ok .next) { s₂ with heap := h', toks := tk }) :
    wpAny (model pr w) A (newList []) (fun acc s₃ => wpAny (model pr w) A (newFunctionEnv scope env.globals cl [] env.qual none .none (some env)) (fun cenv s₄ =>
      codeAny (model pr w) A (.compStart (.ListComp elt [⟨.Name x px, iter, ifs, 0⟩] scope pos) 0 (.ref I) acc { cenv with scope := relabel scope env }) (RR acc cenv.locals) s₄) E s₃) E s₂ := by
  refine wpAny_newObj_type (wpAny_newFunctionEnv hcell (by intro y hy; simp at hy) (fun h₁ hns₁ hsb₁ => ?_) hkind)
  dsimp only at hns₁ hsb₁ ⊢
  generalize hH2 : s₂.heap.push { cls := .type "list", dict := none, data := .seq ([] : List Value).toArray } = H2 at hns₁ hsb₁ ⊢
  have hC : H2.objs.size = s₂.heap.objs.size + 1 := by rw [← hH2, Heap.size_push]
  have old : ∀ b o, s₂.heap.get? b = some o → h₁.get? b = some o := fun b o e => hsb₁.extBut b o (by rw [hC]; exact Nat.ne_of_lt (Nat.lt_succ_of_lt (Heap.lt_size e))) (Heap.get?_push_of_some _ (hH2 ▸ Heap.get?_push_of_some _ e))
  have hacc : h₁.PlainList s₂.heap.objs.size #[] := ⟨_, hsb₁.extBut _ _ (by rw [hC]; exact Nat.ne_of_lt (Nat.lt_succ_self _)) (Heap.get?_push_of_some _ (hH2 ▸ Heap.get?_push_size _ rfl))⟩
  have hst₁ : St 0 h₁ := W.frame _ _ _ hst fun b _ o e => old b o e
  have hs1 : h₁.objs.size = s₂.heap.objs.size + 2 := by rw [hsb₁.1, Heap.size_push, hC]
  rw [hC] at hns₁ ⊢
  clear hsb₁ hC hH2
  have ne : ∀ b ∈ fp, b ≠ s₂.heap.objs.size ∧ b ≠ s₂.heap.objs.size + 1 := fun b hb => ⟨Nat.ne_of_lt (hfp b hb), Nat.ne_of_lt (Nat.lt_succ_of_lt (hfp b hb))⟩
  have nw : ∀ b ∈ wr, b ≠ s₂.heap.objs.size ∧ b ≠ s₂.heap.objs.size + 1 := fun b hb => ne b (W.sub b hb)
  have loop : ∀ s₃ : Shared, s₃ = { s₂ with heap := h₁, toks := s₂.toks + ([] : List (Str × Value)).length } →
      codeAny (model pr w) A (.compLoop (.ListComp elt [⟨.Name x px, iter, ifs, 0⟩] scope pos) 0 (.ref I) (.ref s₂.heap.objs.size) (compEnvC scope cl (s₂.heap.objs.size + 1) env))
        (RR (.ref s₂.heap.objs.size) (s₂.heap.objs.size + 1)) s₃ := by
    rintro s₃ rfl
    refine codeAny_compLoop_tests
      (fun k s' => ∃ h' tk m' ys, ∃ vs : List Value, s' = { s₂ with heap := h', toks := tk } ∧ St vs.length h' ∧ h'.PlainList s₂.heap.objs.size ys ∧ h'.Ns (s₂.heap.objs.size + 1) m' ∧ (∀ j v, vs[j]? = some v → P j v) ∧
        Paired (F h') (vs.filter p) ys.toList ∧ vs.length ≤ n ∧ k = n + 1 - vs.length ∧ Kp wr s₂.heap h' ∧ s₂.heap.objs.size + 2 ≤ h'.objs.size) ?_ (n + 1)
      ⟨h₁, _, _, #[], [], rfl, hst₁, hacc, hns₁, by simp, by simpa using Paired.nil, Nat.zero_le _, rfl, Kp.of old, Nat.le_of_eq hs1.symm⟩
    rintro k s' ⟨H, tk, m', ys, vs, rfl, hst', hacc', hn', hP, hF, hi, rfl, hk, hsize⟩
    have grow : ∀ {h h' : Heap} {Z : List Addr}, Kp Z h h' → (∀ b ∈ Z, ∃ o, h'.get? b = some o) → ∀ b o, h.get? b = some o → b < h'.objs.size := fun {h h' Z} k kz b o e => by
      by_cases hb : b ∈ Z
      · obtain ⟨o', e'⟩ := kz b hb; exact Heap.lt_size e'
      · exact Heap.lt_size (k b o hb e)
    by_cases hlt : vs.length < n
    · refine W.item vs.length _ _ _ hlt hst' fun v h₁ tk₁ hPv hst₁ hk₁ => ?_
      have kw1 : Kp wr H h₁ := hk₁
      have acc1 : h₁.PlainList s₂.heap.objs.size ys := kpL hacc' kw1 (fun q => (nw _ q).1 rfl)
      refine wpAny_assign_Name (wpAny_storeName_local (lookup_relabel_local hx) (hn'.at' fun o e => kw1 _ o (fun q => (nw _ q).2 rfl) e) (fun h₂ hn₂ hs₂ => ?_) (by simp [compEnvC, relabel, hkind]))
      have kc2 : Kp [s₂.heap.objs.size + 1] h₁ h₂ := Kp.same hs₂
      have acc2 : h₂.PlainList s₂.heap.objs.size ys := kpL acc1 kc2 (notMem1 (Nat.ne_of_lt (Nat.lt_succ_self _)))
      have hst₂ : St (vs.length + 1) h₂ := W.frame _ _ _ hst₁ fun b hb o e => kc2 b o (notMem1 (ne b hb).2) e
      have up2 : Kp ((s₂.heap.objs.size + 1) :: wr) H h₂ := fun b o n e => kc2 b o (fun q => n (by rw [List.mem_singleton.mp q]; exact .head _)) (kw1 b o (fun q => n (.tail _ q)) e)
      have k2 : Kp wr s₂.heap h₂ := fun b o n e => up2 b o (fun q => by
        rcases List.mem_cons.mp q with rfl | q
        · exact absurd (Heap.lt_size e) (Nat.not_lt.mpr (Nat.le_succ _))
        · exact n q) (hk b o n e)
      have hsz2 : s₂.heap.objs.size + 2 ≤ h₂.objs.size := hn₂.lt
      have hF2 : Paired (F h₂) (vs.filter p) ys.toList := hF.mono fun _ _ q => mono _ _ _ _ _ (fun b hb => by
        rcases List.mem_cons.mp hb with rfl | hb
        · lia
        · exact Nat.lt_of_lt_of_le (hfp b (W.sub b hb)) (Nat.le_add_right _ 2)) up2 q
      refine wpAny_mono (tests _ vs.length v _ _ _ (Nat.le_succ _) hPv hn₂ (by simp) k2 hsz2 ⟨_, _, rfl⟩) (fun ok s₃ h₃ => ?_) fun _ _ e => e
      obtain ⟨rfl, h₃, tk₃, rfl, hk₃⟩ := h₃
      have kk3 : Kp [] h₂ h₃ := Kp.of hk₃
      have hst₃ : St (vs.length + 1) h₃ := W.frame _ _ _ hst₂ fun b _ o e => hk₃ b o e
      have hP' : ∀ j u, (vs ++ [v])[j]? = some u → P j u := fun j u hj => by
        rcases Nat.lt_trichotomy j vs.length with h | h | h
        · exact hP j u (by rwa [List.getElem?_append_left h] at hj)
        · subst h; simp at hj; subst hj; exact hPv
        · have hnone : (vs ++ [v])[j]? = none := List.getElem?_eq_none (by rw [List.length_append, List.length_singleton]; lia)
          rw [hnone] at hj; cases hj
      have hF3 : Paired (F h₃) (vs.filter p) ys.toList := hF2.mono fun _ _ q => mono [] _ _ _ _ (fun _ q => nomatch q) kk3 q
      have hn₃ := hn₂.keeps hk₃
      have acc3 := kpL acc2 kk3 (fun q => nomatch q)
      cases hpv : p v with
      | false =>
        simp only [Bool.false_eq_true, if_false]
        refine ⟨n + 1 - (vs.length + 1), by lia, h₃, tk₃, _, ys, vs ++ [v], rfl, by simpa using hst₃, acc3, hn₃, hP', ?_, (by rw [List.length_append, List.length_singleton]; exact hlt), (by rw [List.length_append, List.length_singleton]), k2.trans (kk3.mono fun _ q => nomatch q), hn₃.lt⟩
        rw [List.filter_append]; simpa [hpv] using hF3
      | true =>
        simp only [if_true]
        refine wpAny_mono (elt' _ vs.length v _ _ _ (Nat.le_succ _) hPv hpv hn₃ (by simp) (k2.trans (kk3.mono fun _ q => nomatch q)) hn₃.lt ⟨_, _, rfl⟩) (fun y s₄ h₄ => ?_) fun _ _ e => e
        obtain ⟨hFy, h₄, tk₄, rfl, hk₄⟩ := h₄
        have kk4 : Kp [] h₃ h₄ := Kp.of hk₄
        have acc4 := kpL acc3 kk4 (fun q => nomatch q)
        have hys : ys.size ≤ sizeLine := by
          have e1 := hF.length
          have e2 : (vs.filter p).length ≤ vs.length := List.length_filter_le _ _
          have e4 : ys.toList.length = ys.size := by simp
          lia
        refine wpAny_list_append_plain (hsz := hys) acc4 fun h₅ hl₅ hs₅ => ?_
        have kd5 : Kp [s₂.heap.objs.size] h₄ h₅ := Kp.same hs₅
        have m5 : ∀ a b, F h₄ a b → F h₅ a b := fun a b q => mono _ _ _ _ _ (fun b hb => by rw [List.mem_singleton.mp hb]; lia) kd5 q
        refine ⟨n + 1 - (vs.length + 1), by lia, h₅, tk₄, _, ys.push y, vs ++ [v], rfl, ?_, hl₅, (hn₃.keeps hk₄).sameBut hs₅ (Nat.ne_of_gt (Nat.lt_succ_self _)), hP', ?_, (by rw [List.length_append, List.length_singleton]; exact hlt), (by rw [List.length_append, List.length_singleton]),
          fun b o n e => kd5 b o (notMem1 (Nat.ne_of_lt (Heap.lt_size e))) (hk₄ b o (hk₃ b o (k2 b o n e))), ((hn₃.keeps hk₄).sameBut hs₅ (Nat.ne_of_gt (Nat.lt_succ_self _))).lt⟩
        · have := W.frame _ _ h₅ hst₃ fun b hb o e => kd5 b o (notMem1 (ne b hb).1) (hk₄ b o e)
          simpa using this
        · have hF5 := (hF3.mono (F' := F h₄) fun _ _ q => mono [] _ _ _ _ (fun _ q => nomatch q) kk4 q).mono m5
          rw [List.filter_append]; simpa [hpv] using Paired.snoc hF5 (m5 _ _ hFy)
    · have hin : vs.length = n := by lia
      refine W.done _ _ _ (hin ▸ hst') fun h₁ tk₁ hk₁ => ?_
      have kw1 : Kp wr H h₁ := hk₁
      exact hRR _ _ h₁ tk₁ m' ys vs rfl rfl (hn'.at' fun o e => kw1 _ o (fun q => (nw _ q).2 rfl) e) (kpL hacc' kw1 (fun q => (nw _ q).1 rfl)) hin hP (hF.mono fun _ _ q => mono _ _ _ _ _ (fun b hb => by exact Nat.lt_of_lt_of_le (hfp b (W.sub b hb)) (Nat.le_add_right _ 2)) kw1 q) (hk.trans kw1)
  exact codeAny_compStart_list (loop _ rfl) (W.self 0 _ _ _ hst₁ (loop _ rfl))
/-- what a comprehension asks of its source and its element -/
structure CompOk (w : World) (A : Around) (env : Env) (elt : Expr) (x : Str) (ifs : List Expr) (scope : Scope) (cl : List (Str × Addr)) (s₂ : Shared) (fp wr : List Addr) (n : Nat) (P : Nat → Value → Prop) (p : Value → Bool) (F : Heap → Value → Value → Prop) : Prop where
  size : n ≤ sizeLine
  low : ∀ b ∈ fp, b < s₂.heap.objs.size
  mono : ∀ Z h h' v y, (∀ b ∈ Z, b < s₂.heap.objs.size + 2) → Kp Z h h' → F h v y → F h' v y
  tests : ∀ C i v s₃ m₃ E', s₂.heap.objs.size ≤ C → P i v → s₃.heap.Ns C m₃ → m₃ x = some v → Kp wr s₂.heap s₃.heap → s₂.heap.objs.size + 2 ≤ s₃.heap.objs.size → (∃ h tk, s₃ = { s₂ with heap := h, toks := tk }) →
      wpAny (model pr w) A (testsOf ifs (compEnvC scope cl C env)) (fun ok s₄ => ok = p v ∧ Keeps s₃ s₄) E' s₃
  elt : ∀ C i v s₃ m₃ E', s₂.heap.objs.size ≤ C → P i v → p v = true → s₃.heap.Ns C m₃ → m₃ x = some v → Kp wr s₂.heap s₃.heap → s₂.heap.objs.size + 2 ≤ s₃.heap.objs.size → (∃ h tk, s₃ = { s₂ with heap := h, toks := tk }) →
      wpAny (model pr w) A (eval elt (compEnvC scope cl C env)) (fun y s₄ => F s₄.heap v y ∧ Keeps s₃ s₄) E' s₃
inductive CompR (w : World) (A : Around) (env : Env) (elt : Expr) (x : Str) (ifs : List Expr) (scope : Scope) (cl : List (Str × Addr)) (Q : Value → Shared → Prop) (it : Value) (s₂ : Shared) : Prop
  | mk (I : Addr) (fp wr : List Addr) (n : Nat) (P : Nat → Value → Prop) (St : Nat → Heap → Prop) (p : Value → Bool) (F : Heap → Value → Value → Prop) (e : it = .ref I) (W : Walks pr w A I fp wr n P St) (st : St 0 s₂.heap) (ok : CompOk w A env elt x ifs scope cl s₂ fp wr n P p F)
    (q : ∀ (h' : Heap) (tk : Nat) (ys : Array Value) (vs : List Value), h'.PlainList s₂.heap.objs.size ys → vs.length = n → (∀ j v, vs[j]? = some v → P j v) → Paired (F h') (vs.filter p) ys.toList → Kp wr s₂.heap h' → Q (.ref s₂.heap.objs.size) { s₂ with heap := h', toks := tk }) : CompR w A env elt x ifs scope cl Q it s₂
inductive CompAR (w : World) (A : Around) (env : Env) (elt : Expr) (x : Str) (ifs : List Expr) (scope : Scope) (cl : List (Str × Addr)) (X : List Addr) (h₀ : Heap) (m cm : Str → Option Value) (y : Str) (Q : Flow → Shared → Prop) (it : Value) (s₂ : Shared) : Prop
  | mk (I : Addr) (fp wr : List Addr) (n : Nat) (P : Nat → Value → Prop) (St : Nat → Heap → Prop) (p : Value → Bool) (F : Heap → Value → Value → Prop) (e : it = .ref I) (W : Walks pr w A I fp wr n P St) (st : St 0 s₂.heap) (ok : CompOk w A env elt x ifs scope cl s₂ fp wr n P p F)
    (B : Bd X h₀ env m cm s₂.heap) (nw : ∀ b ∈ own env, b ∉ wr) (nw0 : ∀ b ∈ wr, b ∉ X → h₀.get? b = none)
    (q : ∀ (h' : Heap) (tk : Nat) (ys : Array Value) (vs : List Value), h'.PlainList s₂.heap.objs.size ys → vs.length = n → (∀ j v, vs[j]? = some v → P j v) → Paired (F h') (vs.filter p) ys.toList →
        Bd X h₀ env (upd m y (.ref s₂.heap.objs.size)) cm h' → Kp (wr ++ own env) s₂.heap h' → Q .next { s₂ with heap := h', toks := tk }) : CompAR w A env elt x ifs scope cl X h₀ m cm y Q it s₂
theorem Comp_ {elt iter : Expr} {x : Str} {px : Pos} {ifs : List Expr} {scope : Scope} {cl : List (Str × Addr)} {pos : Pos} {Q : Value → Shared → Prop}
    (h : wpAny (model pr w) A (eval iter env) (fun xv s₁ => wpAny (model pr w) A (pyIter xv) (fun it s₂ => CompR w A env elt x ifs scope cl Q it s₂) E s₁) E s)
    (hclos : closureFor scope env = pure cl := by rfl) (hcell : ∀ y ∈ scope.names, y.2 ≠ .cell := by decide) (hkind : scope.kind = .function := by rfl)
    (hnames : ∀ y ∈ scope.names, y.2 = .local → scope.names.lookup y.1 = some .local := by decide) (hx : scope.names.lookup x = some .local := by rfl)
    (hs : ∀ x, foldedSetIterable iter env x = pure x := by intro _; rfl) :
    wpAny (model pr w) A (eval (.ListComp elt [⟨.Name x px, iter, ifs, 0⟩] scope pos) env) Q E s := by
  rw [eval_ListComp]
  refine wpAny_comprehension_free (use := none) rfl hs hclos hkind hnames (wpAny_mono h (fun xv s₁ h₁ => wpAny_mono h₁ (fun it s₂ h₂ => ?_) fun _ _ e => e) fun _ _ e => e)
  obtain ⟨I, fp, wr, n, P, St, p, F, rfl, W, hst, O, hQ⟩ := h₂
  refine compF (RR := fun acc C => compPost (model pr w) A E none Q acc C) W O.size p F O.mono hcell hkind hx hst O.low O.tests O.elt ?_
  rintro D C h' tk m' ys vs rfl rfl hn hl hlen hP hF hk
  refine ⟨m', hn, fun h'' hs'' => hQ h'' tk ys vs (kpL hl (Kp.same hs'') (notMem1 (Nat.ne_of_lt (Nat.lt_succ_self _)))) hlen hP (hF.mono fun _ _ q => O.mono _ _ _ _ _ (fun b hb => by rw [List.mem_singleton.mp hb]; exact Nat.lt_succ_self _) (Kp.same hs'') q) fun b o n e => hs''.extBut b o (Nat.ne_of_lt (Nat.lt_succ_of_lt (Heap.lt_size e))) (hk b o n e)⟩
theorem CompA_ {X : List Addr} {h₀ : Heap} {m cm : Str → Option Value} {elt iter : Expr} {x y : Str} {px py : Pos} {ifs : List Expr} {scope : Scope} {cl : List (Str × Addr)} {pos spos : Pos} {Q : Flow → Shared → Prop}
    (h : wpAny (model pr w) A (eval iter env) (fun xv s₁ => wpAny (model pr w) A (pyIter xv) (fun it s₂ => CompAR w A env elt x ifs scope cl X h₀ m cm y Q it s₂) E s₁) E s)
    (hsw : swapsWith (.ListComp elt [⟨.Name x px, iter, ifs, 0⟩] scope pos) (some (.Name y py)) spos.line env = pure true := by rfl)
    (hclos : closureFor scope env = pure cl := by rfl) (hcell : ∀ y ∈ scope.names, y.2 ≠ .cell := by decide) (hkind : scope.kind = .function := by rfl)
    (hnames : ∀ y ∈ scope.names, y.2 = .local → scope.names.lookup y.1 = some .local := by decide) (hx : scope.names.lookup x = some .local := by rfl)
    (hs : ∀ x, foldedSetIterable iter env x = pure x := by intro _; rfl) (hk : env.scope.kind = .function := by rfl) (hy : env.kindOf y = some .local := by rfl) :
    wpAny (model pr w) A (exec (.Assign [.Name y py] (.ListComp elt [⟨.Name x px, iter, ifs, 0⟩] scope pos) spos) env) Q E s := by
  rw [exec_Assign_Name_used _ _ _ _ hsw]
  refine wpAny_bind (wpAny_standAt (wpAny_bind ?_))
  show wpAny _ A (do let _ ← comprehension (.ListComp elt [⟨.Name x px, iter, ifs, 0⟩] scope pos) scope env _ (newList []) false (eval iter env) (some (assign (.Name y py) env))) _ _ s
  refine wpAny_bind (wpAny_mono (wpAny_comprehension_free (use := some (assign (.Name y py) env)) (Q := fun _ s' => Q .next s') rfl hs hclos hkind hnames
    (wpAny_mono h (fun xv s₁ h₁ => wpAny_mono h₁ (fun it s₂ h₂ => ?_) fun _ _ e => e) fun _ _ e => e)) (fun _ s' hq => wpAny_pure (wpAny_pure hq)) fun _ _ e => e)
  obtain ⟨I, fp, wr, n, P, St, p, F, rfl, W, hst, O, B, nw, nw0, hQ⟩ := h₂
  refine compF (RR := fun acc C => compPost (model pr w) A E (some (assign (.Name y py) env)) (fun _ s' => Q .next s') acc C) W O.size p F O.mono hcell hkind hx hst O.low O.tests O.elt ?_
  rintro D C h' tk m' ys vs rfl rfl hn hl hlen hP hF hkk
  have B' := B.stay hkk nw nw0
  have nC : s₂.heap.objs.size + 1 ∉ own env := B.new (Nat.le_succ _)
  have nD : s₂.heap.objs.size ∉ own env := B.new (Nat.le_refl _)
  show wpAny _ A (assign (.Name y py) env (.ref s₂.heap.objs.size)) _ _ _
  refine wpAny_assign_Name (B'.stL (fun h₂ B₂ k₂ => ?_) hk hy)
  refine ⟨m', hn.at' fun o e => k₂ _ o nC e, fun h'' hs'' => hQ h'' _ ys vs (kpL (kpL hl k₂ nD) (Kp.same hs'') (notMem1 (Nat.ne_of_lt (Nat.lt_succ_self _)))) hlen hP ?_ (B₂.stay1 (Kp.same hs'') nC (B.none (Nat.le_succ _))) fun b o n e => ?_⟩
  · refine hF.mono fun _ _ q => O.mono ((s₂.heap.objs.size + 1) :: own env) _ _ _ _ (fun b hb => ?_) (fun b o n e => hs''.extBut b o (fun q => n (by rw [q]; exact .head _)) (k₂ b o (fun q => n (.tail _ q)) e)) q
    rcases List.mem_cons.mp hb with rfl | hb
    · exact Nat.lt_succ_self _
    · exact Nat.lt_of_lt_of_le (B.lt b hb) (Nat.le_add_right _ 2)
  · exact hs''.extBut b o (Nat.ne_of_lt (Nat.lt_succ_of_lt (Heap.lt_size e))) (k₂ b o (fun q => n (List.mem_append_right _ q)) (hkk b o (fun q => n (List.mem_append_left _ q)) e))
theorem iterL {l : Addr} {its : Array Value} {Q : Value → Shared → Prop} (hl : s.heap.IsList l its)
    (hQ : ∀ (o : Obj) (St : Nat → Heap → Prop), (∀ A' : Around, A'.handled = none → Walks pr w A' s.heap.objs.size [s.heap.objs.size, l] [s.heap.objs.size] its.size (fun i v => its[i]? = some v) St) → St 0 (s.heap.push o) → (∀ i h, St i h → h.IsList l its) →
      Q (.ref s.heap.objs.size) { s with heap := s.heap.push o }) : wpAny (model pr w) A (pyIter (.ref l)) Q E s := by
  have hlt : l < s.heap.objs.size := by obtain ⟨_, e, _⟩ := hl; exact Heap.lt_size e
  exact wpAny_pyIter_list hl (hQ _ _ (fun A' hA => Walks.list hA s.heap.objs.size l (Nat.ne_of_lt hlt) its) ⟨⟨_, Heap.get?_push_size _ rfl, rfl, rfl⟩, hl.push _⟩ fun _ _ x => x.2)
theorem Meth_ {o : Expr} {name : Str} {apos pos : Pos} {args : List Expr} {Q : Value → Shared → Prop}
    (h : wpAny (model pr w) A (eval o env) (fun ov s₁ => MethodOnS pr w A E name ov pos (backTo pos (starEach args env)) Q s₁) E s)
    (hbase : attributeBase o name env (eval o env) = eval o env := by rfl)
    (hfew : ((backTo pos (starEach args env)).all (fun x => !x.1) && (backToKw pos (keywordEach [] env)).all (fun x => x.1.isSome)
      && decide (args.length + ([] : List Keyword).length + (if ([] : List Keyword).isEmpty then 0 else 1) < 30)) = true := by rfl)
    (hline : (apos.endLine == pos.line) = true := by rfl) :
    wpAny (model pr w) A (eval (.Call (.Attribute o name apos) args [] pos) env) Q E s := wpAny_Call_method_lateS hbase hfew hline h
end
theorem keepsT (s : Shared) (t : Nat) : Keeps s { s with toks := t } := ⟨s.heap, t, rfl, fun _ _ e => e⟩
theorem keeps0 (s : Shared) : Keeps s s := keepsT s s.toks
theorem keepsH {s : Shared} {h : Heap} {t : Nat} (k : ∀ b o, s.heap.get? b = some o → h.get? b = some o) : Keeps s { s with heap := h, toks := t } := ⟨h, t, rfl, k⟩
theorem noTests {w : World} {A : Around} {E : Value → Shared → Prop} {s : Shared} {env : Env} {v : Value} : wpAny (model pr w) A (testsOf [] env) (fun ok s₄ => ok = (fun _ : Value => true) v ∧ Keeps s s₄) E s := wpAny_tests_nil ⟨rfl, keeps0 s⟩
theorem one_eq (c d : Nat) : ((⟨#[c]⟩ : Str) == ⟨#[d]⟩) = decide (c = d) := by
  by_cases h : c = d
  · subst h; simp
  · have : (⟨#[c]⟩ : Str) ≠ ⟨#[d]⟩ := fun e => h (by simpa using congrArg (fun s => s.cps.toList) e)
    simp [h]
theorem app1 (x : Str) (c : Nat) : (x ++ (⟨#[c]⟩ : Str)).length = x.length + 1 := by rw [strLen_append]; rfl
theorem bb_len : bootBuiltins "len" = some (.builtin "len") := by kernel_rfl
theorem gn_len (w : World) : nsIn (KF w) mainGlobals "len" = some none := by kernel_rfl
theorem bb_enumerate : bootBuiltins "enumerate" = some (.type "enumerate") := by kernel_rfl
theorem gn_enumerate (w : World) : nsIn (KF w) mainGlobals "enumerate" = some none := by kernel_rfl
theorem bb_range : bootBuiltins "range" = some (.type "range") := by kernel_rfl
theorem gn_range (w : World) : nsIn (KF w) mainGlobals "range" = some none := by kernel_rfl
theorem bb_bool : bootBuiltins "bool" = some (.type "bool") := by kernel_rfl
theorem gn_bool (w : World) : nsIn (KF w) mainGlobals "bool" = some none := by kernel_rfl
theorem bb_isinstance : bootBuiltins "isinstance" = some (.builtin "isinstance") := by kernel_rfl
theorem gn_isinstance (w : World) : nsIn (KF w) mainGlobals "isinstance" = some none := by kernel_rfl
theorem bb_hasattr : bootBuiltins "hasattr" = some (.builtin "hasattr") := by kernel_rfl
theorem gn_hasattr (w : World) : nsIn (KF w) mainGlobals "hasattr" = some none := by kernel_rfl
theorem bb_sorted : bootBuiltins "sorted" = some (.builtin "sorted") := by kernel_rfl
theorem gn_sorted (w : World) : nsIn (KF w) mainGlobals "sorted" = some none := by kernel_rfl
theorem bb_max : bootBuiltins "max" = some (.builtin "max") := by kernel_rfl
theorem gn_max (w : World) : nsIn (KF w) mainGlobals "max" = some none := by kernel_rfl
theorem bb_min : bootBuiltins "min" = some (.builtin "min") := by kernel_rfl
theorem gn_min (w : World) : nsIn (KF w) mainGlobals "min" = some none := by kernel_rfl
theorem bb_sum : bootBuiltins "sum" = some (.builtin "sum") := by kernel_rfl
theorem gn_sum (w : World) : nsIn (KF w) mainGlobals "sum" = some none := by kernel_rfl
theorem gl_28 (w : World) : nsIn (KF w) mainGlobals "_iter_escaped_chars" = some (some (.ref 28)) := by kernel_rfl
theorem gl_35 (w : World) : nsIn (KF w) mainGlobals "_strip_quoted_realnames" = some (some (.ref 35)) := by kernel_rfl
theorem gl_42 (w : World) : nsIn (KF w) mainGlobals "_check_parenthesis" = some (some (.ref 42)) := by kernel_rfl
theorem gl_73 (w : World) : nsIn (KF w) mainGlobals "BaseHandler" = some (some (.ref 73)) := by kernel_rfl
theorem gl_82 (w : World) : nsIn (KF w) mainGlobals "parse_http_list" = some (some (.ref 82)) := by kernel_rfl
theorem gl_89 (w : World) : nsIn (KF w) mainGlobals "_law_handler" = some (some (.ref 89)) := by kernel_rfl
theorem gl_94 (w : World) : nsIn (KF w) mainGlobals "_law_put_in" = some (some (.ref 94)) := by kernel_rfl
theorem gl_99 (w : World) : nsIn (KF w) mainGlobals "_law_sent" = some (some (.ref 99)) := by kernel_rfl
theorem gl_104 (w : World) : nsIn (KF w) mainGlobals "_law_spread" = some (some (.ref 104)) := by kernel_rfl
theorem gl_109 (w : World) : nsIn (KF w) mainGlobals "_law_right" = some (some (.ref 109)) := by kernel_rfl
theorem vs_eq {vs : List Value} {its : Array Value} (hl : vs.length = its.size) (h : ∀ (j : Nat) (v : Value), vs[j]? = some v → its[j]? = some v) : vs = its.toList := by
  apply List.ext_getElem?
  intro j
  cases e : vs[j]? with
  | none =>
    have : vs.length ≤ j := by simpa using e
    symm; simp; lia
  | some v => have := h j v e; simpa using this.symm
def sv : Value → Option Str
  | .str x _ => some x
  | _ => none
theorem sv_eq {v : Value} {x : Str} (h : sv v = some x) : ∃ t, v = .str x t := by
  cases v <;> simp [sv] at h
  subst h; exact ⟨_, rfl⟩
/-- these values are these texts -/
def Strs (vs : List Value) (xs : List Str) : Prop := vs.map sv = xs.map some
theorem Strs.length {vs : List Value} {xs : List Str} (h : Strs vs xs) : vs.length = xs.length := by simpa using congrArg List.length h
theorem Strs.snoc {vs : List Value} {xs : List Str} (h : Strs vs xs) (x : Str) (t : Tok) : Strs (vs ++ [.str x t]) (xs ++ [x]) := by
  unfold Strs at *; rw [List.map_append, List.map_append, h]; rfl
theorem Strs.nil : Strs [] [] := rfl
theorem Strs.at {vs : List Value} {xs : List Str} (h : Strs vs xs) {i : Nat} {v : Value} (e : vs[i]? = some v) : ∃ x, xs[i]? = some x ∧ sv v = some x := by
  have := congrArg (·[i]?) h
  simp only [List.getElem?_map, e, Option.map_some] at this
  cases hx : xs[i]? with
  | none => rw [hx] at this; cases this
  | some x => rw [hx] at this; exact ⟨x, rfl, Option.some.inj this⟩
theorem Strs.paired {f : Str → Str} : ∀ {vs ys : List Value} {xs : List Str}, Paired (fun v y => ∃ x t, sv v = some x ∧ y = .str (f x) t) vs ys → Strs vs xs → Strs ys (xs.map f)
  | _, _, xs, .nil, h => by
    have : xs = [] := by cases xs; rfl; cases h
    subst this; rfl
  | _, _, xs, .cons hf t, h => by
    cases xs with
    | nil => cases h
    | cons x xs =>
      unfold Strs at h
      simp only [List.map_cons, List.cons.injEq] at h
      obtain ⟨x', t', hx, rfl⟩ := hf
      rw [h.1] at hx; cases hx
      have ih := Strs.paired t (xs := xs) h.2
      unfold Strs at *
      simp only [List.map_cons, ih]; rfl
end Mine
set_option maxHeartbeats 8000000
namespace Mine
structure PS where
  res : List Str
  part : Str
  esc : Bool
  qt : Bool
def pstep (st : PS) (c : Nat) : PS :=
  if st.esc then { st with part := st.part ++ ⟨#[c]⟩, esc := false }
  else if st.qt then
    if c = 92 then { st with esc := true } else { st with part := st.part ++ ⟨#[c]⟩, qt := if c = 34 then false else true }
  else if c = 44 then { st with res := st.res ++ [st.part], part := ⟨#[]⟩ }
  else { st with part := st.part ++ ⟨#[c]⟩, qt := if c = 34 then true else false }
def pst (x : Str) (i : Nat) : PS := (x.cps.toList.take i).foldl pstep ⟨[], ⟨#[]⟩, false, false⟩
theorem pst_succ {x : Str} {i c : Nat} (h : x.cps[i]? = some c) : pst x (i + 1) = pstep (pst x i) c := by
  unfold pst
  have : x.cps.toList[i]? = some c := by simpa using h
  rw [List.take_add_one, this, List.foldl_append]; rfl
theorem pstep_bound (st : PS) (c : Nat) : (pstep st c).part.length ≤ st.part.length + 1 ∧ (pstep st c).res.length ≤ st.res.length + 1 := by
  have e : (⟨#[]⟩ : Str).length = 0 := rfl
  unfold pstep
  (repeat' split) <;> (try dsimp only) <;> (try rw [app1]) <;> (try rw [e]) <;> (try rw [List.length_append]) <;> (try simp only [List.length_cons, List.length_nil]) <;> lia
theorem pfold_bound : ∀ (l : List Nat) (st : PS), (l.foldl pstep st).part.length ≤ st.part.length + l.length ∧ (l.foldl pstep st).res.length ≤ st.res.length + l.length
  | [], _ => ⟨Nat.le_refl _, Nat.le_refl _⟩
  | c :: l, st => by
    have a := pfold_bound l (pstep st c)
    have b := pstep_bound st c
    simp only [List.foldl_cons, List.length_cons]
    lia
theorem pst_bound (x : Str) (i : Nat) : (pst x i).part.length ≤ i ∧ (pst x i).res.length ≤ i := by
  have a := pfold_bound (x.cps.toList.take i) ⟨[], ⟨#[]⟩, false, false⟩
  have b : (x.cps.toList.take i).length ≤ i := List.length_take_le ..
  have c : (⟨#[]⟩ : Str).length = 0 := rfl
  unfold pst
  dsimp only at a
  rw [c] at a
  simp only [List.length_nil] at a
  lia
local macro_rules | `(tactic| ktr_rel) => `(tactic| first | assumption | exact upd_eq | (refine upd_ne ?_ (by decide); ktr_rel))
def parseL (x : Str) : List Str := let st := pst x x.cps.size; (if st.part.length = 0 then st.res else st.res ++ [st.part])
theorem parseL_len (x : Str) : (parseL x).length ≤ x.length + 1 := by
  have b := pst_bound x x.cps.size
  have e : x.length = x.cps.size := rfl
  unfold parseL
  dsimp only
  split
  · lia
  · rw [List.length_append, List.length_singleton]; lia
theorem pfold_fits : ∀ (l : List Nat) (st : PS) (k : Nat), st.part.length ≤ k → (∀ y ∈ st.res, y.length ≤ k) → ∀ y ∈ (l.foldl pstep st).res, y.length ≤ k + l.length
  | [], st, k, _, h2 => h2
  | c :: l, st, k, h1, h2 => by
    have := pfold_fits l (pstep st c) (k + 1) (Nat.le_trans (pstep_bound st c).1 (by lia)) (fun y hy => ?_)
    · simp only [List.foldl_cons, List.length_cons]
      intro y hy
      have := this y hy
      lia
    · unfold pstep at hy
      (repeat' split at hy) <;> (try dsimp only at hy) <;> first
        | (have := h2 y hy; lia)
        | (rcases List.mem_append.mp hy with hy | hy
           · have := h2 y hy; lia
           · rw [List.mem_singleton.mp hy]; lia)
theorem parseL_fits (x : Str) (y : Str) (hy : y ∈ parseL x) : y.length ≤ x.length := by
  have b := pst_bound x x.cps.size
  have e : x.length = x.cps.size := rfl
  have f := pfold_fits (x.cps.toList.take x.cps.size) ⟨[], ⟨#[]⟩, false, false⟩ 0 (Nat.le_refl _) (fun _ q => nomatch q)
  have g : (x.cps.toList.take x.cps.size).length ≤ x.cps.size := List.length_take_le ..
  unfold parseL at hy
  dsimp only at hy
  split at hy
  · have := f y hy; lia
  · rcases List.mem_append.mp hy with hy | hy
    · have := f y hy; lia
    · rw [List.mem_singleton.mp hy]; lia
inductive PInv (s : Shared) (env : Env) (cm : Str → Option Value) (x : Str) (R : Addr) (i : Nat) (s' : Shared) : Prop
  | mk (h : Heap) (tk : Nat) (m : Str → Option Value) (vs : List Value) (tp : Tok) (e : s' = { s with heap := h, toks := tk }) (B : Bd [] s.heap env m cm h) (e1 : m "res" = some (.ref R)) (e2 : m "part" = some (.str (pst x i).part tp)) (e3 : m "escape" = some (.bool (pst x i).esc)) (e4 : m "quote" = some (.bool (pst x i).qt))
    (l : h.PlainList R (List.toArray vs)) (st : Strs vs (pst x i).res) : PInv s env cm x R i s'
section
variable {w : World} {A : Around} {E : Value → Shared → Prop} {s : Shared}
theorem parse_ok {x : Str} {t : Tok} {Q : Value → Shared → Prop} (T : Tp w s.heap) (k : Ok A 2) (hx : x.length ≤ 2 ^ 20)
    (hQ : ∀ D vs h' tk, h'.PlainList D (List.toArray vs) → Strs vs ((parseL x).map Txt.strip) → Kp [] s.heap h' → s.heap.get? D = none → Q (.ref D) { s with heap := h', toks := tk }) : wpAny (model pr w) A (call (.ref 82) [.str x t]) Q E s := by
  refine wpAny_call (enter (a := 82) (binds := [("s", .str x t)]) T k rfl rfl (by kernel_rfl) rfl rfl rfl rfl (by decide) ?_)
  intro h₁ tk A' E' k' env B
  have B1 := B.keeps (Kp.push _ _ { cls := .type "list", data := .seq [].toArray })
  have nR := B.new (Nat.le_refl _)
  have nR0 := B.none (Nat.le_refl _)
  refine wpAny_execs_cons (wpAny_Assign_Name (wpAny_List (wpAny_items_nil ⟨by decide, B1.stL fun h₂ B₂ k₂ => ?_⟩)))
  (show wpAny _ _ (execs _ _) _ _ _; refine cut (P := fun st => wpAny _ _ (execs _ _) _ _ st) (h := h₂) (g := s.gens) (d := Shared.drawn s) (o := Shared.os s) fun _ => ?_)
  have R₂ := kpL (its := [].toArray) ⟨_, Heap.get?_push_size _ rfl⟩ k₂ nR
  refine wpAny_execs_cons (wpAny_Assign_Name (wpAny_Constant_str (B₂.stL fun h₃ B₃ k₃ => ?_)))
  refine wpAny_execs_cons (wpAny_Assign_two (wpAny_Constant_bool (wpAny_assign_Name (B₃.stL fun h₄ B₄ k₄ => wpAny_assign_Name (B₄.stL fun h₅ B₅ k₅ => ?_)))))
  have R₅ := kpL (kpL (kpL R₂ k₃ nR) k₄ nR) k₅ nR
  have nI := B₅.new (Nat.le_refl _)
  have nI0 := B₅.none (Nat.le_refl _)
  have nRI : h₁.objs.size ≠ h₅.objs.size := by obtain ⟨n, e⟩ := R₅; exact Nat.ne_of_lt (Heap.lt_size e)
  refine wpAny_execs_cons (For_ (ldL B₅.ns (by ktr_rel) (wpAny_pyIter_str fun o St W st => ⟨_, _, _, _, _, St, PInv s _ _ x _, rfl, W _ k'.hd, st, ⟨_, _, _, [], _, rfl, B₅.keeps (Kp.push _ _ _), by ktr_rel, by ktr_rel, by ktr_rel, by ktr_rel, kpL R₅ (Kp.push [] _ _) (fun q => nomatch q), Strs.nil⟩, ?_, ?_⟩)))
  · rintro i _ h' tk' _ E₂ hlt hst ⟨h, tk, m, vs, tp, rfl, B, e1, e2, e3, e4, hR, hS⟩ ⟨c, u, hc, rfl⟩ hst' hk
    have B' := B.stay1 hk nI nI0
    have R' := kpL hR hk (notMem1 nRI)
    have fr : ∀ {h h' : Heap} {X : List Addr}, St (i + 1) h → Kp X h h' → h₅.objs.size ∉ X → St (i + 1) h' := fun st k n => (W A' k'.hd).frame _ _ _ st fun b hb o e => k b o (by rw [List.mem_singleton.mp hb]; exact n) e
    have hb := pst_bound x i
    refine B'.stL fun h₂ B₂ k₂ => ?_
    refine hideQ fun Q' hqq => ?_
    (show wpAny _ _ (execs _ _) _ _ _; refine cut (P := fun st => wpAny _ _ (execs _ _) _ _ st) (h := h₂) (g := s.gens) (d := Shared.drawn s) (o := Shared.os s) fun _ => ?_)
    have R2 := kpL R' k₂ nR
    have st2 := fr hst' k₂ nI
    refine wpAny_execs_cons (wpAny_If (wpAny_isTrue_value (ldL B₂.ns (by ktr_rel) (wpAny_truthy_bool ?_))))
    have hsz : (pst x i).part.length + (⟨#[c]⟩ : Str).length ≤ sizeLine := by
      have : i < x.length := hlt
      show _ + 1 ≤ _
      rw [sizeLine_eq]; lia
    by_cases he : (pst x i).esc = true
    · rw [if_pos he]
      refine wpAny_execs_cons (wpAny_AugAssign_Name (ldn B₂.ns (by ktr_rel) (ldL B₂.ns (by ktr_rel) (iadd_str (fun t' tk => B₂.stL fun h₃ B₃ k₃ => ?_) hsz))))
      refine wpAny_execs_cons (wpAny_Assign_Name (wpAny_Constant_bool (B₃.stL fun h₄ B₄ k₄ => ?_)))
      refine wpAny_execs_cons (wpAny_Continue ?_)
      have e : pst x (i + 1) = _ := pst_succ hc
      unfold pstep at e
      rw [if_pos he] at e
      exact hqq _ _ ⟨fr (fr st2 k₃ nI) k₄ nI, h₄, _, _, vs, _, rfl, B₄, by ktr_rel, by rw [e]; ktr_rel, by rw [e]; ktr_rel, by rw [e]; ktr_rel, kpL (kpL R2 k₃ nR) k₄ nR, by rw [e]; exact hS⟩
    · rw [if_neg he]
      refine wpAny_execs_nil (wpAny_execs_cons (wpAny_If (wpAny_isTrue_value (ldL B₂.ns (by ktr_rel) (wpAny_truthy_bool ?_)))))
      by_cases hq : (pst x i).qt = true
      · rw [if_pos hq]
        refine wpAny_execs_cons (wpAny_If (wpAny_isTrue_Compare1 (ldL B₂.ns (by ktr_rel) (wpAny_Constant_str (eq_str (wpAny_truthy_bool ?_))))))
        rw [show ((⟨#[c]⟩ : Str) == Str.ofString "\\") = decide (c = 92) from one_eq c 92]
        by_cases h1 : c = 92
        · rw [if_pos (decide_eq_true h1)]
          refine wpAny_execs_cons (wpAny_Assign_Name (wpAny_Constant_bool (B₂.stL fun h₃ B₃ k₃ => ?_)))
          refine wpAny_execs_cons (wpAny_Continue ?_)
          have e : pst x (i + 1) = _ := pst_succ hc
          unfold pstep at e
          rw [if_neg he, if_pos hq, if_pos h1] at e
          exact hqq _ _ ⟨fr st2 k₃ nI, h₃, _, _, vs, _, rfl, B₃, by ktr_rel, by rw [e]; ktr_rel, by rw [e]; ktr_rel, by rw [e]; ktr_rel, kpL R2 k₃ nR, by rw [e]; exact hS⟩
        · rw [if_neg (by simpa using h1)]
          refine wpAny_execs_cons (wpAny_If (wpAny_isTrue_Compare1 (ldL B₂.ns (by ktr_rel) (wpAny_Constant_str (eq_str (wpAny_truthy_bool ?_))))))
          rw [show ((⟨#[c]⟩ : Str) == Str.ofString "\"") = decide (c = 34) from one_eq c 34]
          by_cases h2 : c = 34
          · rw [if_pos (decide_eq_true h2)]
            refine wpAny_execs_cons (wpAny_Assign_Name (wpAny_Constant_bool (B₂.stL fun h₃ B₃ k₃ => wpAny_execs_nil (wpAny_execs_nil ?_))))
            refine wpAny_execs_cons (wpAny_AugAssign_Name (ldn B₃.ns (by ktr_rel) (ldL B₃.ns (by ktr_rel) (iadd_str (fun t' tk => B₃.stL fun h₄ B₄ k₄ => ?_) hsz))))
            refine wpAny_execs_cons (wpAny_Continue ?_)
            have e : pst x (i + 1) = _ := pst_succ hc
            unfold pstep at e
            rw [if_neg he, if_pos hq, if_neg h1, if_pos h2] at e
            exact hqq _ _ ⟨fr (fr st2 k₃ nI) k₄ nI, h₄, _, _, vs, _, rfl, B₄, by ktr_rel, by rw [e]; ktr_rel, by rw [e]; ktr_rel, by rw [e]; ktr_rel, kpL (kpL R2 k₃ nR) k₄ nR, by rw [e]; exact hS⟩
          · rw [if_neg (by simpa using h2)]
            refine wpAny_execs_nil (wpAny_execs_nil (wpAny_execs_cons (wpAny_AugAssign_Name (ldn B₂.ns (by ktr_rel) (ldL B₂.ns (by ktr_rel) (iadd_str (fun t' tk => B₂.stL fun h₄ B₄ k₄ => ?_) hsz))))))
            refine wpAny_execs_cons (wpAny_Continue ?_)
            have e : pst x (i + 1) = _ := pst_succ hc
            unfold pstep at e
            rw [if_neg he, if_pos hq, if_neg h1, if_neg h2] at e
            rw [hq] at e4
            exact hqq _ _ ⟨fr st2 k₄ nI, h₄, _, _, vs, _, rfl, B₄, by ktr_rel, by rw [e]; ktr_rel, by rw [e]; ktr_rel, by rw [e]; ktr_rel, kpL R2 k₄ nR, by rw [e]; exact hS⟩
      · rw [if_neg hq]
        refine wpAny_execs_nil (wpAny_execs_cons (wpAny_If (wpAny_isTrue_Compare1 (ldL B₂.ns (by ktr_rel) (wpAny_Constant_str (eq_str (wpAny_truthy_bool ?_)))))))
        rw [show ((⟨#[c]⟩ : Str) == Str.ofString ",") = decide (c = 44) from one_eq c 44]
        have he' : (pst x i).esc = false := by simpa using he
        have hq' : (pst x i).qt = false := by simpa using hq
        by_cases h1 : c = 44
        · rw [if_pos (decide_eq_true h1)]
          refine wpAny_execs_cons (Append_ (ldL B₂.ns (by ktr_rel) ⟨_, _, rfl, R2, ldL B₂.ns (by ktr_rel) ⟨_, R2, ?_, fun h₃ R3 k₃ => ?_⟩⟩))
          · have := hS.length
            have : i < x.length := hlt
            rw [List.size_toArray, sizeLine_eq]; lia
          have B₃ := B₂.stay1 k₃ nR nR0
          refine wpAny_execs_cons (wpAny_Assign_Name (wpAny_Constant_str (B₃.stL fun h₄ B₄ k₄ => ?_)))
          refine wpAny_execs_cons (wpAny_Continue ?_)
          have e : pst x (i + 1) = _ := pst_succ hc
          unfold pstep at e
          rw [if_neg he, if_neg hq, if_pos h1] at e
          exact hqq _ _ ⟨fr (fr st2 k₃ (notMem1 (Ne.symm nRI))) k₄ nI, h₄, _, _, vs ++ [_], _, rfl, B₄, by ktr_rel, by rw [e]; ktr_rel, by rw [e]; ktr_rel, by rw [e]; ktr_rel, by simpa using kpL R3 k₄ nR, by rw [e]; exact hS.snoc _ _⟩
        · rw [if_neg (by simpa using h1)]
          refine wpAny_execs_nil (wpAny_execs_cons (wpAny_If (wpAny_isTrue_Compare1 (ldL B₂.ns (by ktr_rel) (wpAny_Constant_str (eq_str (wpAny_truthy_bool ?_)))))))
          rw [show ((⟨#[c]⟩ : Str) == Str.ofString "\"") = decide (c = 34) from one_eq c 34]
          by_cases h2 : c = 34
          · rw [if_pos (decide_eq_true h2)]
            refine wpAny_execs_cons (wpAny_Assign_Name (wpAny_Constant_bool (B₂.stL fun h₃ B₃ k₃ => wpAny_execs_nil ?_)))
            refine wpAny_execs_cons (wpAny_AugAssign_Name (ldn B₃.ns (by ktr_rel) (ldL B₃.ns (by ktr_rel) (iadd_str (fun t' tk => B₃.stL fun h₄ B₄ k₄ => wpAny_execs_nil ?_) hsz))))
            have e : pst x (i + 1) = _ := pst_succ hc
            unfold pstep at e
            rw [if_neg he, if_neg hq, if_neg h1, if_pos h2] at e
            exact hqq _ _ ⟨fr (fr st2 k₃ nI) k₄ nI, h₄, _, _, vs, _, rfl, B₄, by ktr_rel, by rw [e]; ktr_rel, by rw [e]; ktr_rel, by rw [e]; ktr_rel, kpL (kpL R2 k₃ nR) k₄ nR, by rw [e]; exact hS⟩
          · rw [if_neg (by simpa using h2)]
            refine wpAny_execs_nil (wpAny_execs_cons (wpAny_AugAssign_Name (ldn B₂.ns (by ktr_rel) (ldL B₂.ns (by ktr_rel) (iadd_str (fun t' tk => B₂.stL fun h₄ B₄ k₄ => wpAny_execs_nil ?_) hsz)))))
            have e : pst x (i + 1) = _ := pst_succ hc
            unfold pstep at e
            rw [if_neg he, if_neg hq, if_neg h1, if_neg h2] at e
            rw [hq'] at e4
            exact hqq _ _ ⟨fr st2 k₄ nI, h₄, _, _, vs, _, rfl, B₄, by ktr_rel, by rw [e]; ktr_rel, by rw [e]; ktr_rel, by rw [e]; ktr_rel, kpL R2 k₄ nR, by rw [e]; exact hS⟩
  · rintro _ h' tk' _ ⟨h, tk, m, vs, tp, rfl, B, e1, e2, e3, e4, hR, hS⟩ hk
    have B' := B.stay1 hk nI nI0
    have R' := kpL hR hk (notMem1 nRI)
    have hb := pst_bound x x.cps.size
    have hxl : x.cps.size = x.length := rfl
    have fits : ∀ y ∈ parseL x, y.length ≤ sizeLine := fun y hy => by have := parseL_fits x y hy; rw [sizeLine_eq]; lia
    refine wpAny_execs_cons (wpAny_mono (Q := fun f s' => f = .next ∧ ∃ h tk vs, s' = { s with heap := h, toks := tk } ∧ Bd [] s.heap env m (bindC env.kindOf [("s", .str x t)] fun _ => none) h ∧ h.PlainList h₁.objs.size (List.toArray vs) ∧ Strs vs (parseL x)) ?_ (fun f s' hf => ?_) (fun _ _ e => e))
    · refine wpAny_If (wpAny_isTrue_value (ldL B'.ns (by ktr_rel) (P.truthy_str (by lia) ?_)))
      by_cases h0 : (pst x x.cps.size).part.length = 0
      · rw [if_neg (by simp [h0])]
        exact wpAny_execs_nil ⟨rfl, _, _, vs, rfl, B', R', by unfold parseL; rw [if_pos h0]; exact hS⟩
      · rw [if_pos (by simpa using h0)]
        refine wpAny_execs_cons (Append_ (ldL B'.ns (by ktr_rel) ⟨_, _, rfl, R', ldL B'.ns (by ktr_rel) ⟨_, R', ?_, fun h₃ R3 k₃ => wpAny_execs_nil ⟨rfl, _, _, vs ++ [_], rfl, B'.stay1 k₃ nR nR0, by simpa using R3, ?_⟩⟩⟩))
        · have := hS.length
          rw [List.size_toArray, sizeLine_eq]; lia
        · unfold parseL; rw [if_neg h0]; exact hS.snoc _ _
    · obtain ⟨rfl, h, tk, vs, rfl, B, R, hS⟩ := hf
      refine wpAny_execs_cons (wpAny_Return_some (Comp_ (ldL B.ns (by ktr_rel) (iterL R.isList fun o St W st _ => ⟨_, _, _, _, _, St, fun _ => true, fun _ v y => ∃ x t, sv v = some x ∧ y = .str (Txt.strip x) t, rfl, W _ k'.hd, st, ?_, ?_⟩))))
      · refine ⟨?_, fun b hb => ?_, fun _ _ _ _ _ _ _ q => q, fun C i v s₃ m₃ E₃ _ _ _ _ _ _ _ => noTests (v := v), fun C i v s₃ m₃ E₃ _ hv _ hn hm _ _ _ => ?_⟩
        · have := hS.length
          have := parseL_len x
          rw [List.size_toArray, sizeLine_eq]; lia
        · show b < (Heap.push _ _).objs.size
          rw [Heap.size_push]
          rcases List.mem_cons.mp hb with rfl | hb
          · exact Nat.lt_succ_self _
          · rw [List.mem_singleton.mp hb]; obtain ⟨_, e⟩ := R; exact Nat.lt_succ_of_lt (Heap.lt_size e)
        · obtain ⟨y, hy, hsv⟩ := hS.at (i := i) (v := v) (by simpa using hv)
          obtain ⟨u, rfl⟩ := sv_eq hsv
          exact Meth_ (ldL hn hm (SB.strip (fun t' k => ⟨⟨y, _, rfl, rfl⟩, keepsT _ _⟩) (fits y (List.mem_of_getElem? hy))))
      · intro h' tk' ys vs' hD hl hP hF hk
        have e := vs_eq hl hP
        rw [List.filter_eq_self.mpr (fun _ _ => rfl), e] at hF
        exact hQ _ ys.toList h' tk' (by simpa using hD) (Strs.paired hF hS) (fun b o q e => hk b o (notMem1 (Nat.ne_of_lt (Heap.lt_size (B.keep b o q e)))) (Heap.get?_push_of_some _ (B.keep b o q e))) (B.none (by show _ ≤ (Heap.push _ _).objs.size; rw [Heap.size_push]; exact Nat.le_succ _))
end
end Mine
open PySem.W.X (SegX s_call s_again s_pop s_end s_yield)
set_option maxHeartbeats 8000000
namespace Mine
section
variable {w : World} {A : Around} {c : Code} {fs : List Frame} {P : End → Shared → Prop} {s : Shared} {env : Env}
  {K : Flow → Sem PySem.Fin} {H : Value → Sem PySem.Fin} {gd : Bool → Bool} {lv : List Value → List Value}
theorem x_wrap {α : Type} {m : Sem α} {K : α → Sem PySem.Fin} {H : Value → Sem PySem.Fin} {gd : Bool → Bool} {lv : List Value → List Value}
    (h : wpAny (model pr w) (A.over c fs) m (fun a s' => SegX (model pr w) A c (K a) fs s' P) (fun x s' => SegX (model pr w) A c (H x) fs s' P) s) :
    SegX (model pr w) A c (m.wrap K H gd lv) fs s P := by
  rintro Γ p rfl hΓ
  obtain ⟨e, s', hr, hq⟩ := runs_wrap_of_wp (Φ := fun e s' => e.quiet = true ∧ P e s') K H gd lv m (h (Γ.over fs) p (hΓ.over fs)) (fun a p' s' h' => h' Γ p' rfl hΓ) (fun x p' s' h' => h' Γ p' rfl hΓ)
  exact ⟨e, s', hr, hq⟩
theorem x_at {p' : Pos} {k : Unit → Sem PySem.Fin} (h : SegX (model pr w) A c (k ()) fs s P) : SegX (model pr w) A c (.at p' k) fs s P :=
  x_wrap (m := standAt p') (K := k) (H := .raise) (gd := id) (lv := id) (wpAny_standAt h)
theorem x_point {l : List Value} {k : Unit → Sem PySem.Fin} (h : SegX (model pr w) A c (k ()) fs s P) : SegX (model pr w) A c (.point l k) fs s P :=
  x_wrap (m := point) (K := k) (H := .raise) (gd := id) (lv := fun _ => l) (wpAny_point h)
theorem x_cons {st : Stmt} {rest : List Stmt} (h : SegX (model pr w) A c ((exec st env).wrap (fun f => match f with | .next => (execs rest env).wrap K H gd lv | f => K f) H gd lv) fs s P) :
    SegX (model pr w) A c ((execs (st :: rest) env).wrap K H gd lv) fs s P := by rw [execs_cons_wrap]; exact h
/-- a statement that yields nothing -/
theorem x_plain {st : Stmt} {rest : List Stmt} (h : ∀ E', wpAny (model pr w) (A.over c fs) (exec st env) (fun f s' => match f with | .next => SegX (model pr w) A c ((execs rest env).wrap K H gd lv) fs s' P | f => SegX (model pr w) A c (K f) fs s' P) E' s) :
    SegX (model pr w) A c ((execs (st :: rest) env).wrap K H gd lv) fs s P :=
  x_cons (x_wrap (wpAny_mono (h _) (fun f s' q => by cases f <;> exact q) fun _ _ e => e))
theorem x_If {test : Expr} {body orelse : List Stmt} {pos : Pos}
    (h : ∀ E', wpAny (model pr w) (A.over c fs) (isTrue test env (eval test env)) (fun b s' => if b = true then SegX (model pr w) A c ((execs body env).wrap K H gd lv) fs s' P else SegX (model pr w) A c ((execs orelse env).wrap K H gd lv) fs s' P) E' s) :
    SegX (model pr w) A c ((exec (.If test body orelse pos) env).wrap K H gd lv) fs s P := by
  rw [exec_If]
  show SegX (model pr w) A c (.at pos fun _ => ((isTrue test env (eval test env)) >>= fun b => if b = true then execs body env else execs orelse env).wrap K H gd lv) fs s P
  refine x_at ?_
  rw [Sem.bind_eq_wrap', Sem.wrap_wrap]
  refine x_wrap (wpAny_mono (h _) (fun b s' q => ?_) fun _ _ e => e)
  cases b
  · exact q
  · exact q
theorem x_yield {v : Value} {g : Bool} {l : List Value} {k : Resume → Sem PySem.Fin} (hg : g = false) (hfs : splitAtGen fs = none) (hfg : fs.any Frame.guarded = false) (x : ∀ p, P (.susp v false l k c p fs) s) : SegX (model pr w) A c (.yield v g l k) fs s P := by
  subst hg
  exact s_yield pr w A c fs P s v l k hfs hfg x
theorem x_Yield {e : Expr} {ypos pos : Pos} (hfs : splitAtGen fs = none) (hgd : gd false = false) (hfg : fs.any Frame.guarded = false)
    (h : ∀ E', wpAny (model pr w) (A.over c fs) (eval e env) (fun v s' => ∀ (k' : Resume → Sem PySem.Fin) (l : List Value) (p : Pos), k' (.send .none) = K .next → P (.susp v false l k' c p fs) s') E' s)
    (hco : env.scope.isCoroutine = false := by rfl) (hi : interactive env = false := by rfl) :
    SegX (model pr w) A c ((exec (.Expr (.Yield (some e) ypos) pos) env).wrap K H gd lv) fs s P := by
  rw [exec_Expr env _ pos hi rfl]
  show SegX (model pr w) A c (.at pos fun _ => ((eval e env >>= fun v => (standAt ypos >>= fun _ => yieldOut env v)) >>= fun x =>
    dropValue (.Yield (some e) ypos) pos x).wrap K H gd lv) fs s P
  have hy : ∀ v, yieldOut env v = yieldValue v := fun v => by simp only [yieldOut, hco, Bool.false_eq_true, if_false]
  simp only [hy]
  refine x_at ?_
  rw [Sem.bind_eq_wrap', Sem.bind_eq_wrap', Sem.wrap_wrap, Sem.wrap_wrap]
  refine x_wrap (wpAny_mono (h _) (fun v s' h' => ?_) fun _ _ x => x)
  refine x_at ?_
  exact x_yield (g := gd false) hgd hfs hfg fun p => h' _ _ p rfl
theorem x_For {target iter : Expr} {body : List Stmt} {pos : Pos}
    (h : ∀ E', wpAny (model pr w) (A.over c fs) (eval iter env) (fun x s₁ => wpAny (model pr w) (A.over c fs) (pyIter x) (fun it s₂ => ∀ (p : Pos) (kk : Result → Sem PySem.Fin), kk (.ok .next) = K .next →
      SegX (model pr w) A (.forLoop target it body [] env) (denote table (.forLoop target it body [] env)) (.ret kk none (gd false) (lv []) c p [] :: fs) s₂ P) E' s₁) E' s)
    (hs : ∀ x, foldedSetIterable iter env x = pure x := by intro _; rfl) :
    SegX (model pr w) A c ((exec (.For target iter body [] pos) env).wrap K H gd lv) fs s P := by
  rw [exec_For]
  refine x_at ?_
  show SegX (model pr w) A c ((eval iter env >>= fun x0 => foldedSetIterable iter env x0 >>= fun x => standAt iter.pos >>= fun _ => holding [x] (pyIter x) >>= fun it => runOwn (.forLoop target it body [] env) env).wrap K H gd lv) fs s P
  rw [Sem.bind_eq_wrap', Sem.wrap_wrap]
  refine x_wrap (wpAny_mono (h _) (fun x s₁ h₁ => ?_) fun _ _ e => e)
  rw [hs x]
  refine x_at ?_
  show SegX (model pr w) A c ((holding [x] (pyIter x) >>= fun it => runOwn (.forLoop target it body [] env) env).wrap K H gd lv) fs s₁ P
  rw [Sem.bind_eq_wrap', Sem.wrap_wrap]
  refine x_wrap (wpAny_holding (wpAny_mono h₁ (fun it s₂ h₂ => ?_) fun _ _ e => e))
  refine s_call pr w A c fs P s₂ _ none _ _ _ fun p => ?_
  exact h₂ p _ rfl
theorem x_turn {target : Expr} {it : Value} {body : List Stmt}
    (h : ∀ E', wpAny (model pr w) (A.over (.forLoop target it body [] env) fs) (pyNext it) (fun r s₁ => match r with
      | none => SegX (model pr w) A (.block [] env) (denote table (.block [] env)) fs s₁ P
      | some v => ∀ E', wpAny (model pr w) (A.over (.forLoop target it body [] env) fs) (letOwnedTupleGo target it v) (fun _ s₂ => ∀ E', wpAny (model pr w) (A.over (.forLoop target it body [] env) fs) (assign target env v) (fun _ s₃ =>
          ∀ HB, SegX (model pr w) A (.forLoop target it body [] env) ((execs body env).wrap (fun f => match f with
            | .next | .cont => .pure (.again (.forLoop target it body [] env))
            | .brk => .pure (.done .next)
            | .ret v => .pure (.done (.ret v))) HB id id) fs s₃ P) E' s₂) E' s₁) E' s) :
    SegX (model pr w) A (.forLoop target it body [] env) (denote table (.forLoop target it body [] env)) fs s P := by
  show SegX (model pr w) A _ ((forTurn target it body [] env).onRaise (fun x => do noteFrame x env; theTreesLotGoes x)) fs s P
  unfold forTurn
  rw [Sem.onRaise_eq_wrap]
  refine x_at ?_
  show SegX (model pr w) A _ (((pyNext it).onRaise (fun _ => standAt { target.pos with line := 0 }) >>= fun r => match r with
    | none => again (.block [] env)
    | some v => letOwnedTupleGo target it v >>= fun _ => assign target env v >>= fun _ => execs body env >>= fun f => match f with
      | .next | .cont => again (.forLoop target it body [] env)
      | .brk => pure (.done .next)
      | .ret v => pure (.done (.ret v))).wrap _ _ _ _) fs s P
  rw [Sem.bind_eq_wrap', Sem.wrap_wrap]
  refine x_wrap (wpAny_onRaise (wpAny_mono (h _) (fun r s₁ h₁ => ?_) fun _ _ e => wpAny_standAt e))
  cases r with
  | none => exact s_again pr w A _ fs P s₁ _ rfl h₁
  | some v =>
    show SegX (model pr w) A _ ((letOwnedTupleGo target it v >>= fun _ => assign target env v >>= fun _ => execs body env >>= fun f => match f with
      | .next | .cont => again (.forLoop target it body [] env)
      | .brk => pure (.done .next)
      | .ret v => pure (.done (.ret v))).wrap _ _ _ _) fs s₁ P
    rw [Sem.bind_eq_wrap', Sem.wrap_wrap]
    refine x_wrap (wpAny_mono (h₁ _) (fun _ s₂ h₂ => ?_) fun _ _ e => e)
    rw [Sem.bind_eq_wrap', Sem.wrap_wrap]
    refine x_wrap (wpAny_mono (h₂ _) (fun _ s₃ h₃ => ?_) fun _ _ e => e)
    rw [Sem.bind_eq_wrap', Sem.wrap_wrap]
    refine (fun z => ?_) (h₃ (fun e => ((do noteFrame e env; theTreesLotGoes e : Sem Unit).bind fun _ => .raise e)))
    refine (Sem.wrap_congr (execs body env) _ _ (fun f => ?_) (fun e => ?_)) ▸ z
    · cases f <;> rfl
    · rfl
theorem x_block {kk : Result → Sem PySem.Fin} {hd : Option Value} {g : Bool} {l : List Value} {c₁ : Code} {p₁ : Pos} {kp : List Value} (h : SegX (model pr w) A c₁ (kk (.ok .next)) fs s P) :
    SegX (model pr w) A (.block [] env) (denote table (.block [] env)) (.ret kk hd g l c₁ p₁ kp :: fs) s P :=
  s_pop pr w A (.block [] env) fs P s (.ok .next) _ rfl kk hd g l c₁ p₁ kp h
end
end Mine
open PySem.W.X (SegX s_call s_again s_pop s_end s_yield)
set_option maxHeartbeats 8000000
namespace Mine
local macro_rules | `(tactic| ktr_rel) => `(tactic| first | assumption | exact upd_eq | (refine upd_ne ?_ (by decide); ktr_rel))
/-- what _iter_escaped_chars tells of the rest -/
def gen : List Nat → Nat → Bool → List (Nat × Str)
  | [], i, esc => if esc then [(i - 1, ⟨#[92]⟩)] else []
  | c :: r, i, esc => if esc then (i, ⟨#[92, c]⟩) :: gen r (i + 1) false else if c = 92 then gen r (i + 1) true else (i, ⟨#[c]⟩) :: gen r (i + 1) false
/-- how a segment of the generator ends that has these to tell -/
def Out (w : World) (A : Around) (own : List Addr) : List (Nat × Str) → Shared → End → Shared → Prop
  | [], s, e, s' => e = .ret (.ok (.ret .none)) ∧ ∃ h' tk, s' = { s with heap := h', toks := tk } ∧ Kp own s.heap h'
  | (p, u) :: r, s, e, s' => ∃ T l k' c pp fs h' tk tp tu, e = .susp (.ref T) false l k' c pp fs ∧ fs.any Frame.guarded = false ∧ s' = { s with heap := h', toks := tk } ∧ Kp own s.heap h' ∧ h'.IsTuple T #[.int (p : Int) tp, .str u tu] ∧
      ∀ s'' : Shared, (∀ b ∈ own, ∀ o, h'.get? b = some o → s''.heap.get? b = some o) → SegX (model pr w) A c (k' (.send .none)) fs s'' (Out w A own r s'')
theorem Out.weak {w : World} {A : Around} {own : List Addr} {ys : List (Nat × Str)} {s s₁ : Shared} {h : Heap} {t : Nat} (hs : s₁ = { s with heap := h, toks := t }) (k : Kp own s.heap h) {e : End} {s' : Shared} (o : Out w A own ys s₁ e s') : Out w A own ys s e s' := by
  subst hs
  cases ys with
  | nil =>
    obtain ⟨h1, h', tk, rfl, k'⟩ := o
    exact ⟨h1, h', tk, rfl, k.trans k'⟩
  | cons y r =>
    obtain ⟨T, l, k', c, pp, fs, h', tk, tp, tu, h1, hb, rfl, h3, h4⟩ := o
    exact ⟨T, l, k', c, pp, fs, h', tk, tp, tu, h1, hb, rfl, k.trans h3, h4⟩
theorem SegX.weak {w : World} {A : Around} {own : List Addr} {ys : List (Nat × Str)} {s s₁ s₂ : Shared} {h : Heap} {t : Nat} {c : Code} {tr : Sem PySem.Fin} {fs : List Frame} (x : SegX (model pr w) A c tr fs s₂ (Out w A own ys s₁)) (hs : s₁ = { s with heap := h, toks := t }) (k : Kp own s.heap h) : SegX (model pr w) A c tr fs s₂ (Out w A own ys s) :=
  X.SegX.mono x fun _ _ o => o.weak hs k
def pickDef (k : Nat) : List Stmt := match PySem.Challenge.pw_pk0059_01.main.body[k]? with
  | some (.FunctionDef _ _ b _ _ _ _ _ _ _) => b
  | _ => []
def pickFor (l : List Stmt) (k : Nat) : Expr × List Stmt := match l[k]? with
  | some (.For t _ b _ _) => (t, b)
  | _ => (.Constant .none 0 ⟨0, 0, 0, 0⟩, [])
abbrev gT : Expr := (pickFor (pickDef 2) 2).1
abbrev gB : List Stmt := (pickFor (pickDef 2) 2).2
section
variable {w : World} {A : Around} {E : Value → Shared → Prop} {s : Shared} {env : Env} {m : Str → Option Value}
theorem stG {x : Str} {v : Value} {Q : Unit → Shared → Prop} (ns : s.heap.Ns env.locals m) (h : ∀ h', h'.Ns env.locals (upd m x v) → Kp [env.locals] s.heap h' → Q () { s with heap := h', toks := s.toks + 1 })
    (hk : env.scope.kind = .function) (hl : env.kindOf x = some .local) : wpAny (model pr w) A (storeName env x v) Q E s :=
  wpAny_storeName_local hl ns (fun h' hn hs => h h' hn (Kp.same hs)) (by rw [hk]; rfl)
theorem loopGo {x : Str} {En It : Addr} {kk : Result → Sem PySem.Fin} {c₁ : Code} {p₁ : Pos} {Pt : Nat → Array Value → Prop} {St : Nat → Heap → Prop} {Mid : Nat → Addr → Heap → Prop}
    (hk : env.scope.kind = .function) (hp : env.kindOf "pos" = some .local) (he : env.kindOf "escape" = some .local) (hc : env.kindOf "ch" = some .local) (hco : env.scope.isCoroutine = false)
    (hA : (A.over (.forLoop gT (.ref En) gB [] env) [.ret kk none false [] c₁ p₁ []]).handled = none)
    (nE : En ≠ env.locals) (nI : It ≠ env.locals)
    (W : WalksT pr w (A.over (.forLoop gT (.ref En) gB [] env) [.ret kk none false [] c₁ p₁ []]) En [En, It] [En, It] x.cps.size Pt St Mid)
    (hPt : ∀ i vals, Pt i vals → ∃ c t u, x.cps[i]? = some c ∧ vals = #[.int (i : Int) t, .str ⟨#[c]⟩ u])
    (fin : ∀ (s : Shared) m esc, s.heap.Ns env.locals m → m "escape" = some (.bool esc) → (∃ t, m "pos" = some (.int ((x.cps.size - 1 : Nat) : Int) t)) →
      SegX (model pr w) A c₁ (kk (.ok .next)) [] s (Out w A [env.locals, En, It] (gen [] x.cps.size esc) s)) :
    ∀ (r : List Nat) (i : Nat) (esc : Bool) (s : Shared) (m : Str → Option Value), x.cps.toList.drop i = r → i ≤ x.cps.size → s.heap.Ns env.locals m → m "escape" = some (.bool esc) → (∃ t, m "pos" = some (.int ((i - 1 : Nat) : Int) t)) → St i s.heap →
      SegX (model pr w) A (.forLoop gT (.ref En) gB [] env) (denote table (.forLoop gT (.ref En) gB [] env)) [.ret kk none false [] c₁ p₁ []] s (Out w A [env.locals, En, It] (gen r i esc) s) := by
  intro r
  induction r with
  | nil =>
    intro i esc s m hr hi ns e1 e2 st
    have hin : i = x.cps.size := by
      have : x.cps.toList.length ≤ i := by simpa using hr
      simp at this; lia
    subst hin
    refine x_turn fun E' => W.done s _ _ st fun h' tk hk' => x_block ?_
    exact SegX.weak (fin _ m esc (ns.at' fun o e => hk' _ o (by simp; exact ⟨Ne.symm nE, Ne.symm nI⟩) e) e1 e2) rfl fun b o n e => hk' b o (fun q => n (.tail _ q)) e
  | cons c r ih =>
    intro i esc s m hr hi ns e1 e2 st
    have hci : x.cps[i]? = some c := by
      have := congrArg (·[0]?) hr
      simpa using this
    have hlt : i < x.cps.size := (Array.getElem?_eq_some_iff.mp hci).1
    have hr' : x.cps.toList.drop (i + 1) = r := by
      have := congrArg (List.drop 1) hr
      simpa using this
    have nL : env.locals ∉ [En, It] := by simp; exact ⟨Ne.symm nE, Ne.symm nI⟩
    refine x_turn fun E' => W.item i s _ _ hlt st fun T vals h₁ t₁ hP hle hT hM k₁ => fun E' => W.go _ _ _ i T _ _ _ hM fun h₂ st₂ k₂ => fun E' => ?_
    obtain ⟨c', t, u, hc', rfl⟩ := hPt i vals hP
    rw [hci] at hc'; cases hc'
    have nT : T ∉ [En, It] := W.apart i T h₁ hM
    have T₂ : h₂.IsTuple T #[.int (i : Int) t, .str ⟨#[c]⟩ u] := by obtain ⟨o, e, r⟩ := hT; exact ⟨o, k₂ _ o nT e, r⟩
    refine wpAny_assign_Tuple hA T₂ rfl rfl fun h₃ x₃ => ?_
    have ns₂ : h₂.Ns env.locals m := (ns.at' fun o e => k₁ _ o nL e).at' fun o e => k₂ _ o nL e
    have keep₃ : ∀ b o, h₂.get? b = some o → h₃.get? b = some o := fun b o e => x₃ b o (Nat.ne_of_lt (Heap.lt_size e)) e
    have ns₃ := ns₂.keeps keep₃
    have st₃ := W.frame _ _ h₃ st₂ fun b _ o e => keep₃ b o e
    have kA : Kp [env.locals, En, It] s.heap h₃ := fun b o n e => keep₃ b o (k₂ b o (fun q => n (.tail _ q)) (k₁ b o (fun q => n (.tail _ q)) e))
    show wpAny _ _ (do holding [.str ⟨#[c]⟩ u] (assign (.Name "pos" _) env (.int i t)); do holding [] (assign (.Name "ch" _) env (.str ⟨#[c]⟩ u)); pure ()) _ _ _
    refine wpAny_bind (wpAny_holding (wpAny_assign_Name (stG ns₃ (fun h₄ ns₄ k₄ => ?_) hk hp)))
    refine wpAny_bind (wpAny_holding (wpAny_assign_Name (stG ns₄ (fun h₅ ns₅ k₅ => wpAny_pure fun HB => ?_) hk hc)))
    have fr : ∀ {h h' : Heap}, St (i + 1) h → Kp [env.locals] h h' → St (i + 1) h' := fun st k => W.frame _ _ _ st fun b hb o e => k b o (fun q => by
      rw [List.mem_singleton.mp q] at hb
      exact nL hb) e
    have st₅ := fr (fr st₃ k₄) k₅
    have up : ∀ {h h' : Heap}, Kp [env.locals] h h' → Kp [env.locals, En, It] h h' := fun k => k.mono fun b hb => by rw [List.mem_singleton.mp hb]; exact .head _
    have kB : Kp [env.locals, En, It] s.heap h₅ := (kA.trans (up k₄)).trans (up k₅)
    -- the loop goes on
    have next : ∀ (s : Shared) m esc t, s.heap.Ns env.locals m → m "escape" = some (.bool esc) → m "pos" = some (.int (i : Int) t) → St (i + 1) s.heap →
        SegX (model pr w) A (.forLoop gT (.ref En) gB [] env) (.pure (.again (.forLoop gT (.ref En) gB [] env))) [.ret kk none false [] c₁ p₁ []] s (Out w A [env.locals, En, It] (gen r (i + 1) esc) s) :=
      fun s m esc t ns e1 e2 st => s_again pr w A _ _ _ s _ rfl (ih (i + 1) esc s m hr' hlt ns e1 ⟨t, by simpa using e2⟩ st)
    refine x_cons (x_If fun E' => wpAny_isTrue_value (ldL ns₅ (by ktr_rel) (wpAny_truthy_bool ?_) hk he rfl))
    cases esc with
    | true =>
      rw [if_pos rfl]
      refine x_cons (x_Yield rfl rfl rfl (fun E' => wpAny_Tuple (wpAny_items_cons (ldL ns₅ (by ktr_rel) (wpAny_items_cons (wpAny_BinOp (wpAny_Constant_str (ldL ns₅ (by ktr_rel) (add_str (fun t' tk => wpAny_items_nil ⟨by show 2 ≤ sizeLine; decide, fun k' l p hk' => ?_⟩) (by show 1 + 1 ≤ sizeLine; decide)) hk hc rfl))) ) hk hp rfl))) hco (by simp [interactive, hk]))
      refine ⟨_, _, _, _, _, _, _, _, _, _, rfl, rfl, rfl, kB.trans (Kp.push _ _ _), ⟨_, Heap.get?_push_size _ rfl, rfl, _, rfl⟩, fun s'' kept => ?_⟩
      rw [hk']
      have ns₆ : s''.heap.Ns env.locals _ := (ns₅.push _).at' fun o e => kept _ (.head _) o e
      have st₆ : St (i + 1) s''.heap := W.frame _ _ _ (W.frame _ _ _ st₅ fun b _ o e => Heap.get?_push_of_some _ e) fun b hb o e => kept b (.tail _ hb) o e
      refine x_plain fun E' => wpAny_Assign_Name (wpAny_Constant_bool (stG ns₆ (fun h₇ ns₇ k₇ => ?_) hk he))
      exact SegX.weak (next _ _ false _ ns₇ (by ktr_rel) (by ktr_rel) (fr st₆ k₇)) rfl (up k₇)
    | false =>
      rw [if_neg (by decide)]
      refine x_cons (x_If fun E' => wpAny_isTrue_Compare1 (ldL ns₅ (by ktr_rel) (wpAny_Constant_str (eq_str (wpAny_truthy_bool ?_))) hk hc rfl))
      rw [show ((⟨#[c]⟩ : Str) == Str.ofString "\\") = decide (c = 92) from one_eq c 92]
      by_cases h1 : c = 92
      · rw [if_pos (decide_eq_true h1)]
        have eg : gen (c :: r) i false = gen r (i + 1) true := by simp [gen, h1]
        rw [eg]
        refine x_plain fun E' => wpAny_Assign_Name (wpAny_Constant_bool (stG ns₅ (fun h₇ ns₇ k₇ => ?_) hk he))
        exact SegX.weak (next _ _ true _ ns₇ (by ktr_rel) (by ktr_rel) (fr st₅ k₇)) rfl (kB.trans (up k₇))
      · rw [if_neg (by simpa using h1)]
        have eg : gen (c :: r) i false = (i, ⟨#[c]⟩) :: gen r (i + 1) false := by simp [gen, h1]
        rw [eg]
        refine x_cons (x_Yield rfl rfl rfl (fun E' => wpAny_Tuple (wpAny_items_cons (ldL ns₅ (by ktr_rel) (wpAny_items_cons (ldL ns₅ (by ktr_rel) (wpAny_items_nil ⟨by show 2 ≤ sizeLine; decide, fun k' l p hk' => ?_⟩) hk hc rfl)) hk hp rfl))) hco (by simp [interactive, hk]))
        refine ⟨_, _, _, _, _, _, _, _, _, _, rfl, rfl, rfl, kB.trans (Kp.push _ _ _), ⟨_, Heap.get?_push_size _ rfl, rfl, _, rfl⟩, fun s'' kept => ?_⟩
        rw [hk']
        have ns₆ : s''.heap.Ns env.locals _ := (ns₅.push _).at' fun o e => kept _ (.head _) o e
        have st₆ : St (i + 1) s''.heap := W.frame _ _ _ (W.frame _ _ _ st₅ fun b _ o e => Heap.get?_push_of_some _ e) fun b hb o e => kept b (.tail _ hb) o e
        exact next _ _ false _ ns₆ (by ktr_rel) (by ktr_rel) st₆
end
end Mine
open PySem.W.X (SegX s_call s_again s_pop s_end s_yield)
set_option maxHeartbeats 8000000
namespace Mine
/-- a generator of the kind, ys still to tell; Z is what its reader changes -/
def GenAt (w : World) (A : Around) (h₀ : Heap) (Z : List Addr) (g : Nat) (ys : List (Nat × Str)) (s : Shared) : Prop :=
  ∃ gs, s.gens[g]? = some gs ∧ (
    (∃ own k' l c pp fs cl, gs = .suspended k' l c pp fs cl ∧ (∀ b ∈ own, b ∉ Z ∧ h₀.get? b = none) ∧ ∀ s'' : Shared, (∀ b ∈ own, ∀ o, s.heap.get? b = some o → s''.heap.get? b = some o) →
      SegX (model pr w) A c (k' (.send .none)) fs s'' (Out w A own ys s'')) ∨
    (∃ L c, gs = .fresh c ∧ L ∉ Z ∧ h₀.get? L = none ∧ ∀ s'' : Shared, (∀ o, s.heap.get? L = some o → s''.heap.get? L = some o) → Tp w s''.heap →
      SegX (model pr w) A c (denote table c) [] s'' (Out w A [L, s''.heap.objs.size + 1, s''.heap.objs.size] ys s'')))
theorem GenAt.stay {w : World} {A : Around} {h₀ : Heap} {Z : List Addr} {g : Nat} {ys : List (Nat × Str)} {s s' : Shared} (G : GenAt w A h₀ Z g ys s) (k : Kp Z s.heap s'.heap) (hg : s'.gens = s.gens) : GenAt w A h₀ Z g ys s' := by
  obtain ⟨gs, e, h | h⟩ := G
  · obtain ⟨own, k', l, c, pp, fs, cl, h1, h2, h3⟩ := h
    exact ⟨gs, by rw [hg]; exact e, .inl ⟨own, k', l, c, pp, fs, cl, h1, h2, fun s'' q => h3 s'' fun b hb o e => q b hb o (k b o (h2 b hb).1 e)⟩⟩
  · obtain ⟨L, c, h1, h2, h3, h4⟩ := h
    exact ⟨gs, by rw [hg]; exact e, .inr ⟨L, c, h1, h2, h3, fun s'' q T => h4 s'' (fun o e => q o (k L o h2 e)) T⟩⟩
section
variable {w : World} {A : Around} {E : Value → Shared → Prop} {s : Shared} {h₀ : Heap} {Z : List Addr}
theorem set_set (gs : Array GenState) (g : Nat) (x y : GenState) : (gs.setIfInBounds g x).setIfInBounds g y = gs.setIfInBounds g y := by
  apply Array.ext_getElem?
  intro i
  simp only [Array.getElem?_setIfInBounds, Array.size_setIfInBounds]
  split <;> rfl
theorem get_set {gs : Array GenState} {g : Nat} {x y : GenState} (h : gs[g]? = some x) : (gs.setIfInBounds g y)[g]? = some y := by
  have : g < gs.size := (Array.getElem?_eq_some_iff.mp h).1
  simp [this]
theorem resumeX {α : Type} {g : Nat} {gs : GenState} {r : Resume} {l : List Value} {k : GenResult → Sem α} {Q : α → Shared → Prop} {c₀ : Code} {t₀ : Sem PySem.Fin} {fs₀ : List Frame} (hg : s.gens[g]? = some gs)
    (how : (gs = .fresh c₀ ∧ r = .send .none ∧ t₀ = denote table c₀ ∧ fs₀ = []) ∨ (∃ k₀ l₀ p₀ cl, gs = .suspended k₀ l₀ c₀ p₀ fs₀ cl ∧ t₀ = k₀ r))
    (x : SegX (model pr w) A c₀ t₀ fs₀ (s.setGen g .running) (fun e s₁ => wpAny (model pr w) A (k e.result) Q E (s₁.setGen g e.genState))) : wpAny (model pr w) A (.resume g r l k) Q E s :=
  X.wake_any _ pr w hg how (fun Γ => Γ.In A) (fun _ h => h) (X.SegX.mono x fun e s₁ h Γ p hΓ => h Γ p hΓ)
theorem pyNextG {a : Addr} {g : Nat} {ys : List (Nat × Str)} {Q : Option Value → Shared → Prop} (hh : A.handled = none) (T : Tp w s.heap) (hroom : A.depth < recursionLimit) (hg : s.heap.IsGen a g) (G : GenAt w A.in1 h₀ Z g ys s)
    (hZ : ∀ b ∈ Z, b < s.heap.objs.size) (h0 : h₀.objs.size ≤ s.heap.objs.size)
    (hQ0 : ys = [] → ∀ h' tk Y, (∀ b ∈ Y, b ∉ Z ∧ h₀.get? b = none) → Kp Y s.heap h' → Q none { s with heap := h', toks := tk, gens := s.gens.setIfInBounds g .finished })
    (hQ1 : ∀ p u r, ys = (p, u) :: r → ∀ T' h' tk gs' Y tp tu, (∀ b ∈ Y, b ∉ Z ∧ h₀.get? b = none) → Kp Y s.heap h' → h'.IsTuple T' #[.int (p : Int) tp, .str u tu] → gs'.bare = true →
      GenAt w A.in1 h₀ Z g r { s with heap := h', toks := tk, gens := s.gens.setIfInBounds g gs' } → Q (some (.ref T')) { s with heap := h', toks := tk, gens := s.gens.setIfInBounds g gs' }) :
    wpAny (model pr w) A (pyNext (.ref a)) Q E s := by
  unfold pyNext
  refine wpAny_bind (wpAny_attempt (wpAny_callSpecial?_slot (name := Str.ofString "__next__") hg.typeIs slot_gen_next
    (wpAny_call_entry slot_gen_next hg.typeIs entry_gen_next ?_ (args_gen_next _))))
  show wpAny _ _ (Builtin.Generator.genWake (.ref a) (.send .none)) _ _ s
  unfold Builtin.Generator.genWake
  obtain ⟨gs, hgs, hG⟩ := G
  refine wpAny_bind (wpAny_holding (wpAny_genNumber hg (wpAny_bind (wpAny_genState hgs ?_))))
  -- the segment, from either state
  obtain ⟨own, c₀, t₀, fs₀, how, hown, seg⟩ : ∃ own c₀ t₀ fs₀, ((gs = .fresh c₀ ∧ Resume.send .none = .send .none ∧ t₀ = denote table c₀ ∧ fs₀ = []) ∨ (∃ k₀ l₀ p₀ cl, gs = .suspended k₀ l₀ c₀ p₀ fs₀ cl ∧ t₀ = k₀ (.send .none))) ∧
      (∀ b ∈ own, b ∉ Z ∧ h₀.get? b = none) ∧ SegX (model pr w) A.in1 c₀ t₀ fs₀ (s.setGen g .running) (Out w A.in1 own ys (s.setGen g .running)) := by
    rcases hG with ⟨own, k', l, c, pp, fs, cl, rfl, h2, h3⟩ | ⟨L, c, rfl, h2, h3, h4⟩
    · exact ⟨own, c, _, fs, .inr ⟨k', l, pp, cl, rfl, rfl⟩, h2, h3 _ fun b _ o e => e⟩
    · refine ⟨_, c, _, [], .inl ⟨rfl, rfl, rfl, rfl⟩, fun b hb => ?_, h4 (s.setGen g .running) (fun o e => e) T⟩
      have new : ∀ b, s.heap.objs.size ≤ b → b ∉ Z ∧ h₀.get? b = none := fun b hb => ⟨fun q => Nat.lt_irrefl _ (Nat.lt_of_lt_of_le (hZ b q) hb), by
        cases e : h₀.get? b with
        | none => rfl
        | some o => exact absurd (Nat.lt_of_lt_of_le (Heap.lt_size e) (Nat.le_trans h0 hb)) (Nat.lt_irrefl _)⟩
      rcases List.mem_cons.mp hb with rfl | hb
      · exact ⟨h2, h3⟩
      · rcases List.mem_cons.mp hb with rfl | hb
        · exact new _ (Nat.le_succ _)
        · rw [List.mem_singleton.mp hb]; exact new _ (Nat.le_refl _)
  have fin : ∀ {α : Type} {k : GenResult → Sem α} {Q' : α → Shared → Prop} {E' : Value → Shared → Prop},
      (∀ h' tk, ys = [] → Kp own s.heap h' → wpAny (model pr w) A.in1 (k (.returned .none)) Q' E' { s with heap := h', toks := tk, gens := s.gens.setIfInBounds g .finished }) →
      (∀ p u r T' h' tk gs' tp tu, ys = (p, u) :: r → Kp own s.heap h' → h'.IsTuple T' #[.int (p : Int) tp, .str u tu] → gs'.bare = true → GenAt w A.in1 h₀ Z g r { s with heap := h', toks := tk, gens := s.gens.setIfInBounds g gs' } →
        wpAny (model pr w) A.in1 (k (.yielded (.ref T'))) Q' E' { s with heap := h', toks := tk, gens := s.gens.setIfInBounds g gs' }) →
      wpAny (model pr w) A.in1 (.resume g (.send .none) [] k) Q' E' s := by
    intro α k Q' E' f1 f2
    refine resumeX hgs how (X.SegX.mono seg fun e s₁ ho => ?_)
    cases ys with
    | nil =>
      obtain ⟨rfl, h', tk, rfl, kk⟩ := ho
      have := f1 h' tk rfl kk
      rw [← set_set s.gens g .running] at this
      exact this
    | cons y r =>
      obtain ⟨p, u⟩ := y
      obtain ⟨T', l, k', c, pp, fs, h', tk, tp, tu, rfl, hb, rfl, kk, hT, rest⟩ := ho
      have := f2 p u r T' h' tk (.suspended k' l c pp fs (false || fs.any Frame.guarded)) tp tu rfl kk hT (by simp [GenState.bare, hb]) ?_
      · rw [← set_set s.gens g .running] at this
        exact this
      · exact ⟨_, get_set hgs, .inl ⟨own, k', l, c, pp, fs, _, rfl, hown, rest⟩⟩
  rcases how with ⟨rfl, -, rfl, rfl⟩ | ⟨k₀, l₀, p₀, cl, rfl, rfl⟩
  · refine wpAny_bind (wpAny_roomToWake T.nl hroom ?_)
    show wpAny _ _ (.resume g (.send .none) [] _) _ _ s
    refine fin (fun h' tk hy kk => ?_) (fun p u r T' h' tk gs' tp tu hy kk hT hbr hG => ?_)
    · show wpAny _ _ (newExc (.type "StopIteration") [] >>= _) _ _ _
      refine wpAny_bind ?_
      simp only [newExc, newTuple]
      refine wpAny_bind (wpAny_newObj_type ?_ (by size_fits))
      refine wpAny_bind (m := firstArgMember _ _) (wpAny_of_eq (a := Value.none) (by first | rfl | (simp only [firstArgMember]; rfl)) ?_)
      refine wpAny_newObj_type ?_ (by size_fits)
      simp only [raiseNew]
      refine wpAny_bind (wpAny_bind (wpAny_handled ?_))
      rw [show A.in1.handled = none from hh]
      refine wpAny_throw ?_
      refine wpAny_bind (wpAny_isInstance (T := "StopIteration") (b := true) ⟨_, Heap.get?_push_size _ rfl, rfl⟩ isSubtype_stop ?_)
      exact wpAny_pure (hQ0 hy _ _ own hown fun b o n e => Heap.get?_push_of_some _ (Heap.get?_push_of_some _ (kk b o n e)))
    · exact wpAny_pure ⟨_, rfl, wpAny_pure (hQ1 p u r hy T' h' tk gs' own tp tu hown kk hT hbr hG)⟩
  · refine wpAny_bind (wpAny_roomToWake T.nl hroom ?_)
    show wpAny _ _ (.resume g (.send .none) [] _) _ _ s
    refine fin (fun h' tk hy kk => ?_) (fun p u r T' h' tk gs' tp tu hy kk hT hbr hG => ?_)
    · show wpAny _ _ (newExc (.type "StopIteration") [] >>= _) _ _ _
      refine wpAny_bind ?_
      simp only [newExc, newTuple]
      refine wpAny_bind (wpAny_newObj_type ?_ (by size_fits))
      refine wpAny_bind (m := firstArgMember _ _) (wpAny_of_eq (a := Value.none) (by first | rfl | (simp only [firstArgMember]; rfl)) ?_)
      refine wpAny_newObj_type ?_ (by size_fits)
      simp only [raiseNew]
      refine wpAny_bind (wpAny_bind (wpAny_handled ?_))
      rw [show A.in1.handled = none from hh]
      refine wpAny_throw ?_
      refine wpAny_bind (wpAny_isInstance (T := "StopIteration") (b := true) ⟨_, Heap.get?_push_size _ rfl, rfl⟩ isSubtype_stop ?_)
      exact wpAny_pure (hQ0 hy _ _ own hown fun b o n e => Heap.get?_push_of_some _ (Heap.get?_push_of_some _ (kk b o n e)))
    · exact wpAny_pure ⟨_, rfl, wpAny_pure (hQ1 p u r hy T' h' tk gs' own tp tu hown kk hT hbr hG)⟩
end
end Mine
open PySem.W.X (SegX s_call s_again s_pop s_end s_yield)
set_option maxHeartbeats 8000000
namespace Mine
local macro_rules | `(tactic| ktr_rel) => `(tactic| first | assumption | exact upd_eq | (refine upd_ne ?_ (by decide); ktr_rel))
section
variable {w : World} {A : Around} {c : Code} {fs : List Frame} {P : End → Shared → Prop} {s : Shared} {env : Env} {E : Value → Shared → Prop}
theorem x_func {body : List Stmt} (h : ∀ H, SegX (model pr w) A (.func body env) ((execs body env).wrap (fun f => .pure (.done (.ret (match f with | .ret v => v | _ => .none)))) H id id) fs s P) :
    SegX (model pr w) A (.func body env) (denote table (.func body env)) fs s P := by
  show SegX _ A _ (.point [] fun _ => ((execs body env).onRaise (leaving env)) >>= _) fs s P
  refine x_point ?_
  rw [Sem.onRaise_eq_wrap, Sem.bind_eq_wrap', Sem.wrap_wrap]
  refine (fun z => ?_) (h (fun e => (leaving env e).wrap (fun _ => .raise e) .raise id id))
  refine (Sem.wrap_congr (execs body env) _ _ (fun f => ?_) (fun e => ?_)) ▸ z
  · cases f <;> rfl
  · rw [Sem.bind_eq_wrap, Sem.wrap_wrap]; rfl
theorem over0 {A : Around} {c : Code} (h : A.handled = none) : (A.over c []).handled = none := h
theorem over1 {A : Around} {c c₁ : Code} {kk : Result → Sem PySem.Fin} {g : Bool} {l : List Value} {p : Pos} {kp : List Value} (h : A.handled = none) : (A.over c [.ret kk none g l c₁ p kp]).handled = none := h
theorem strDraws {x : Str} {t : Tok} {A : Around} (hA : A.handled = none) (It : Addr) : Draws pr w A It [It] x.cps.size (fun i v => ∃ c u, x.cps[i]? = some c ∧ v = .str ⟨#[c]⟩ u) (fun i h => h.IsStrIter It (strIterType x) x t i) := by
  unfold strIterType
  cases x.cps.all (· < 128)
  · exact Draws.strWide hA It x t
  · exact Draws.strAscii hA It x t
theorem push_get (gs : Array GenState) (x : GenState) : (gs.push x)[gs.size]? = some x := by simp
theorem gen_new {x : Str} {t : Tok} {Q : Value → Shared → Prop} {d : Nat} (T : Tp w s.heap) (k : Ok A (d + 1))
    (hQ : ∀ G L h' tk gs, h'.IsGen G s.gens.size → Kp [] s.heap h' → s.heap.objs.size ≤ L → L < G → gs.bare = true →
      (∀ (A' : Around) (h₀ : Heap) (Z : List Addr), A'.handled = none → L ∉ Z → h₀.get? L = none → GenAt w A' h₀ Z s.gens.size (gen x.cps.toList 0 false) { s with heap := h', toks := tk, gens := s.gens.push gs }) →
      Q (.ref G) { s with heap := h', toks := tk, gens := s.gens.push gs }) : wpAny (model pr w) A (call (.ref 28) [.str x t]) Q E s := by
  refine wpAny_call (codeAny_call_generator k.room (T.K 28 _ rfl) rfl rfl rfl rfl (codeRec_of T.K (by kernel_rfl)) ?_)
  refine wpAny_of_eq (a := ([((Str.ofString "addr"), Value.str x t)] : List (Str × Value))) rfl ?_
  refine wpAny_newFunctionEnv_cells rfl (kindsX rfl _) fun env he s' X => ?_
  have henv := he
  obtain ⟨h', tk', rfl⟩ := X.toInCall.same
  refine ⟨T.nl.keeps X.toInCall.keep, ?_⟩
  refine hQ _ env.locals _ _ _ ⟨_, _, _, Heap.get?_push_size _ rfl, rfl, rfl, rfl⟩ (fun b o _ e => Heap.get?_push_of_some _ (X.toInCall.keep b o e)) X.toInCall.fresh ?_ rfl ?_
  · exact X.toInCall.ns.lt
  · intro A' h₀ Z hA' nL nL0
    refine ⟨_, push_get _ _, .inr ⟨env.locals, _, rfl, nL, nL0, fun s'' hL T'' => x_func fun H => ?_⟩⟩
    have ns : s''.heap.Ns env.locals _ := (X.toInCall.ns.push _).at' hL
    clear hL X
    subst he
    refine x_plain fun E' => wpAny_Assign_Name (wpAny_Constant_int (wpAny_storeName_local rfl ns (fun h₁ ns₁ k₁ => ?_) rfl))
    refine x_plain fun E' => wpAny_Assign_Name (wpAny_Constant_bool (wpAny_storeName_local rfl ns₁ (fun h₂ ns₂ k₂ => ?_) rfl))
    have far : Far [s.heap.objs.size] := Far.one T.size
    have T₂ : Tp w h₂ := (T''.kp (Kp.same k₁) far).kp (Kp.same k₂) far
    have z₂ : h₂.objs.size = s''.heap.objs.size := k₂.1.trans k₁.1
    refine x_cons (x_For fun E' => Call_ (ldB T₂ (gn_enumerate w) bb_enumerate (PySem.callWith_type1 (ldL ns₂ (by ktr_rel) (call_enumerate_str fun h₃ iE iI z₃ k₃ => ?_)))))
    refine wpAny_pyIter_enum iE fun p kk hkk => ?_
    rw [← z₂]
    have lL : s.heap.objs.size < h₂.objs.size := ns₂.lt
    have ns₃ := ns₂.keeps k₃
    have W := fun (A'' : Around) (hA : A''.handled = none) => WalksT.enumerateD (A := A'') (strDraws (w := w) (x := x) (t := t) (A := A''.in1) hA h₂.objs.size) (h₂.objs.size + 1) (Nat.succ_ne_self _) (notMem1 (Nat.succ_ne_self _)) (List.mem_singleton.mpr rfl)
    have kA : Kp [s.heap.objs.size, h₂.objs.size + 1, h₂.objs.size] s''.heap h₃ := fun b o n e => k₃ b o ((Kp.same k₂) b o (fun q => n (by rw [List.mem_singleton.mp q]; exact .head _)) ((Kp.same k₁) b o (fun q => n (by rw [List.mem_singleton.mp q]; exact .head _)) e))
    refine SegX.weak (loopGo rfl rfl rfl rfl rfl hA' (Nat.ne_of_gt (Nat.lt_succ_of_lt lL)) (Nat.ne_of_gt lL) (W _ hA') (fun i vals hv => ?_) (fun s m esc ns e1 e2 => ?_) x.cps.toList 0 false _ _ rfl (Nat.zero_le _) ns₃ (by ktr_rel) ⟨_, by ktr_rel⟩ ⟨⟨_, iE⟩, iI⟩) rfl kA
    · obtain ⟨t, y, ⟨c, u, hc, rfl⟩, rfl⟩ := hv
      exact ⟨c, t, u, hc, rfl⟩
    · rw [hkk]
      refine x_cons (x_If fun E' => wpAny_isTrue_value (ldL ns (by ktr_rel) (wpAny_truthy_bool ?_)))
      cases esc with
      | false =>
        rw [if_neg (by decide)]
        exact s_end pr w A' _ _ _ (.ok (.ret .none)) _ rfl ⟨rfl, _, _, rfl, Kp.refl _ _⟩
      | true =>
        rw [if_pos rfl]
        obtain ⟨tp, e2⟩ := e2
        refine x_cons (x_Yield rfl rfl rfl (fun E' => wpAny_Tuple (wpAny_items_cons (ldL ns (by ktr_rel) (wpAny_items_cons (wpAny_Constant_str (wpAny_items_nil ⟨by show 2 ≤ sizeLine; decide, fun k' l p hk' => ?_⟩)))))))
        refine ⟨_, _, _, _, _, _, _, _, _, _, rfl, rfl, rfl, Kp.push _ _ _, ⟨_, Heap.get?_push_size _ rfl, rfl, _, rfl⟩, fun s'' kept => ?_⟩
        rw [hk']
        exact s_end pr w A' _ _ _ (.ok (.ret .none)) _ rfl ⟨rfl, _, _, rfl, Kp.refl _ _⟩
end
end Mine
set_option maxHeartbeats 8000000
namespace Mine
theorem bare_set {gs : Array GenState} {g : Nat} {x : GenState} (h : AllBare gs) (hx : x.bare = true) : AllBare (gs.setIfInBounds g x) := fun y hy => by
  obtain ⟨i, hi, e⟩ := Array.getElem_of_mem hy
  have hi' : i < gs.size := by simpa using hi
  rw [Array.getElem_setIfInBounds hi'] at e
  split at e
  · rw [← e]; exact hx
  · rw [← e]; exact h _ (Array.getElem_mem _)
theorem gen_len : ∀ (l : List Nat) (i : Nat) (e : Bool), (gen l i e).length ≤ l.length + (if e then 1 else 0)
  | [], i, e => by cases e <;> simp [gen]
  | c :: r, i, e => by
    have a := gen_len r (i + 1) false
    have b := gen_len r (i + 1) true
    simp only [gen]
    (repeat' split) <;> simp_all <;> omega
inductive SlSOk (Q : Value → Shared → Prop) (o vl vu : Value) (s₃ : Shared) : Prop
  | mk (x : Str) (t : Tok) (l u : Option (Int × Tok)) (e1 : o = .str x t) (e2 : vl = partValue l) (e3 : vu = partValue u) (sz : x.length ≤ sizeLine) (q : ∀ h' t' k, Kp [] s₃.heap h' → Q (.str (Txt.slice x (l.map (·.1)) (u.map (·.1))) t') { s₃ with heap := h', toks := k }) : SlSOk Q o vl vu s₃
section
variable {w : World} {A : Around} {E : Value → Shared → Prop} {s : Shared} {env : Env} {h₀ : Heap} {Z : List Addr}
theorem go_gen {elts : List Expr} {x1} {pos : Pos} {G T : Addr} {g : Nat} {Q : Unit → Shared → Prop} (hg : s.heap.IsGen G g) (hQ : Q () s) :
    wpAny (model pr w) A (letOwnedTupleGo (.Tuple elts x1 pos) (.ref G) (.ref T)) Q E s := by
  obtain ⟨o, nm, qn, ho, hc, hd, _⟩ := hg
  unfold letOwnedTupleGo
  refine wpAny_bind (wpAny_load ho ?_)
  rw [hc, hd]
  show wpAny _ A (if (["enumerate", "zip", "dict_itemiterator", "dict_reverseitemiterator", "odict_iterator", "itertools.zip_longest", "itertools.pairwise"].contains "generator" &&
      (#[.int g 0, nm, qn] : Array Value)[0]? == some (rawInt T)) = true then _ else _) Q E s
  rw [if_neg (by
    intro h
    rw [show (["enumerate", "zip", "dict_itemiterator", "dict_reverseitemiterator", "odict_iterator", "itertools.zip_longest", "itertools.pairwise"].contains "generator") = false from by decide, Bool.false_and] at h
    cases h)]
  exact wpAny_pure hQ
theorem forG {px py pt : Pos} {x1} {body : List Stmt} {G : Addr} {g : Nat} (J : List (Nat × Str) → Heap → Prop) {n1 n2 : Str} {Q : Flow → Shared → Prop} {R : Result → Shared → Prop} {ys : List (Nat × Str)}
    (hA : A.handled = none) (hroom : A.depth < recursionLimit)
    (inv : ∀ ys h, J ys h → Tp w h ∧ h.IsGen G g ∧ (∀ b ∈ Z, b < h.objs.size) ∧ h₀.objs.size ≤ h.objs.size) (hG : G ∈ Z)
    (stay : ∀ ys h h' Y, J ys h → (∀ b ∈ Y, b ∉ Z ∧ h₀.get? b = none) → Kp Y h h' → J ys h')
    (item : ∀ p u r (s' : Shared) tp tu E', J ((p, u) :: r) s'.heap → AllBare s'.gens → (∃ h tk gs, s' = { s with heap := h, toks := tk, gens := gs }) →
      wpAny (model pr w) A (storeName env n1 (.int (p : Nat) tp)) (fun _ s₁ => wpAny (model pr w) A (storeName env n2 (.str u tu)) (fun _ s₂ => wpAny (model pr w) A (execs body env) (fun f s₃ => match f with
        | .next | .cont => ∃ h tk, s₃ = { s' with heap := h, toks := tk } ∧ J r h ∧ Kp Z s'.heap h
        | .brk => Q .next s₃
        | .ret u => Q (.ret u) s₃) E' s₂) E' s₁) E' s')
    (fin : ∀ h tk gs, J [] h → AllBare gs → Q .next { s with heap := h, toks := tk, gens := gs })
    (hR : ∀ f s, Q f s → R (.ok f) s)
    (j0 : J ys s.heap) (b0 : AllBare s.gens) (g0 : GenAt w A.in1 h₀ Z g ys s) : codeAny (model pr w) A (.forLoop (.Tuple [.Name n1 px, .Name n2 py] x1 pt) (.ref G) body [] env) R s := by
  refine codeAny_forLoop_any (fun k s' => ∃ ys h tk gs, k = ys.length + 1 ∧ s' = { s with heap := h, toks := tk, gens := gs } ∧ AllBare gs ∧ GenAt w A.in1 h₀ Z g ys s' ∧ J ys h) ?_ (ys.length + 1) ⟨ys, _, _, _, rfl, rfl, b0, g0, j0⟩
  rintro k s' ⟨ys, h, tk, gs, rfl, rfl, hb, hg, hj⟩
  obtain ⟨T, iG, hZ, hsz⟩ := inv _ _ hj
  refine pyNextG hA T hroom iG hg hZ hsz (fun hy h' tk' Y hY kY => ?_) (fun p u r hy T' h' tk' gs' Y tp tu hY kY hT hbr hG' => ?_)
  · subst hy
    exact wpAny_execs_nil (hR _ _ (fin _ _ _ (stay _ _ _ _ hj hY kY) (bare_set hb rfl)))
  · subst hy
    have j1 := stay _ _ _ _ hj hY kY
    refine go_gen (inv _ _ j1).2.1 (wpAny_assign_Tuple hA hT rfl rfl fun h₃ x₃ => ?_)
    have keep₃ : Kp [] h' h₃ := fun b o _ e => x₃ b o (Nat.ne_of_lt (Heap.lt_size e)) e
    have j2 := stay _ _ _ _ j1 (by simp) keep₃
    have := item p u r { s with heap := h₃, toks := tk', gens := gs.setIfInBounds g gs' } tp tu (notedBy (model pr w) A env fun e s' => R (.error e) s') j2 (bare_set hb hbr) ⟨_, _, _, rfl⟩
    show wpAny _ _ (do holding [.str u tu] (assign (.Name n1 _) env (.int p tp)); do holding [] (assign (.Name n2 _) env (.str u tu)); pure ()) _ _ _
    refine wpAny_bind (wpAny_holding (wpAny_assign_Name (wpAny_mono this (fun _ s₁ h₁ => ?_) fun _ _ e => e)))
    refine wpAny_bind (wpAny_holding (wpAny_assign_Name (wpAny_mono h₁ (fun _ s₂ h₂ => wpAny_pure (wpAny_mono h₂ (fun f s₃ h₆ => ?_) fun _ _ e => e)) fun _ _ e => e)))
    have nx : (∃ h tk, s₃ = { ({ s with heap := h₃, toks := tk', gens := gs.setIfInBounds g gs' } : Shared) with heap := h, toks := tk } ∧ J r h ∧ Kp Z h₃ h) → ∃ m, m < ((p, u) :: r).length + 1 ∧ ∃ ys h tk gs, m = ys.length + 1 ∧ s₃ = { s with heap := h, toks := tk, gens := gs } ∧ AllBare gs ∧ GenAt w A.in1 h₀ Z g ys s₃ ∧ J ys h := by
      rintro ⟨h, tk, rfl, jr, kz⟩
      exact ⟨r.length + 1, by simp, r, h, tk, _, rfl, rfl, bare_set hb hbr, (hG'.stay (s' := { s with heap := h₃, toks := tk', gens := gs.setIfInBounds g gs' }) (fun b o _ e => keep₃ b o (fun q => nomatch q) e) rfl).stay kz rfl, jr⟩
    cases f with
    | next => exact nx h₆
    | cont => exact nx h₆
    | brk => exact hR _ _ h₆
    | ret v => exact hR _ _ h₆
theorem Slice_ {value : Expr} {lower upper : Option Expr} {p pos : Pos} {Q : Value → Shared → Prop}
    (h : wpAny (model pr w) A (eval value env) (fun o s₁ => wpAny (model pr w) A (evalPart lower env) (fun vl s₂ => wpAny (model pr w) A (evalPart upper env) (fun vu s₃ =>
      SlSOk Q o vl vu s₃) E s₂) E s₁) E s)
    (ht : ∀ o r, letTemporaryGo value o r = pure () := by intro _ _; rfl) :
    wpAny (model pr w) A (eval (.Subscript value (.Slice lower upper none p) pos) env) Q E s := by
  refine wpAny_Subscript_str_slice (wpAny_mono h (fun o s₁ h₁ => wpAny_mono h₁ (fun vl s₂ h₂ => wpAny_mono h₂ (fun vu s₃ h₃ => ?_) fun _ _ e => e) fun _ _ e => e) fun _ _ e => e) ht
  obtain ⟨x, t, l, u, rfl, rfl, rfl, hsz, hQ⟩ := h₃
  exact ⟨x, t, l, u, rfl, rfl, rfl, post_val_or_str ⟨Nat.le_trans (Txt.slice_le x _ _) hsz, fun t' k => hQ _ t' k (Kp.push _ _ _)⟩⟩
end
end Mine
set_option maxHeartbeats 8000000
namespace Mine
section
variable {w : World} {A : Around} {E : Value → Shared → Prop} {s : Shared} {env : Env}
theorem Fn_ {x : Str} {px pos : Pos} {a : Addr} {e : Expr} {rest : List Expr} {Q : Value → Shared → Prop} (T : Tp w s.heap) (gl : nsIn (KF w) mainGlobals x = some (some (.ref a))) (hk : keepIn (KF w) (.ref a) = true)
    (h : wpAny (model pr w) A (spliced (backTo pos (starEach (e :: rest) env))) (fun vs s₁ => Tp w s₁.heap ∧ wpAny (model pr w) A (call (.ref a) vs) Q E s₁) E s)
    (he : starEach (e :: rest) env = (false, eval e env) :: starEach rest env := by rfl) (hplain : (backTo pos (starEach rest env)).any (·.1) = false := by rfl)
    (hc : eval (.Call (.Name x px) (e :: rest) [] pos) env = (do callWith pos (← eval (.Name x px) env) [] (backTo pos (starEach (e :: rest) env)) (backToKw pos (keywordEach [] env))) := by rfl)
    (hg : env.globals = mainGlobals := by rfl) (hk2 : env.scope.kind = .function := by rfl) (hl : env.kindOf x = some .globalImplicit := by rfl) (hd : (x == ("__debug__" : Str)) = false := by rfl) :
    wpAny (model pr w) A (eval (.Call (.Name x px) (e :: rest) [] pos) env) Q E s :=
  Call_ (ldF T gl (PySem.W.callWith_K T.K hk (wpAny_mono h (fun _ _ q => ⟨q.1.K, q.2⟩) fun _ _ e => e) he hplain) hg hk2 hl hd) hc
theorem Bi_ {x : Str} {id : String} {px pos : Pos} {e : Expr} {rest : List Expr} {Q : Value → Shared → Prop} (T : Tp w s.heap) (gl : nsIn (KF w) mainGlobals x = some none) (hv : bootBuiltins x = some (.builtin id))
    (h : wpAny (model pr w) A (spliced (backTo pos (starEach (e :: rest) env))) (fun vs s₁ => wpAny (model pr w) A (call (.builtin id) vs) Q E s₁) E s)
    (he : starEach (e :: rest) env = (false, eval e env) :: starEach rest env := by rfl) (hplain : (backTo pos (starEach rest env)).any (·.1) = false := by rfl)
    (hc : eval (.Call (.Name x px) (e :: rest) [] pos) env = (do callWith pos (← eval (.Name x px) env) [] (backTo pos (starEach (e :: rest) env)) (backToKw pos (keywordEach [] env))) := by rfl)
    (hn : x ≠ "__name__" := by decide) (hg : env.globals = mainGlobals := by rfl) (hb : env.builtins = builtinsNs := by rfl) (hk2 : env.scope.kind = .function := by rfl) (hl : env.kindOf x = some .globalImplicit := by rfl) (hd : (x == ("__debug__" : Str)) = false := by rfl) :
    wpAny (model pr w) A (eval (.Call (.Name x px) (e :: rest) [] pos) env) Q E s :=
  Call_ (ldB T gl hv (PyProof.Rows.callWith_builtin1 h he hplain) hn hg hb hk2 hl hd) hc
end
/-- strip's loop -/
structure SS where
  res : List Str
  start : Nat
  op : Option Nat
def sstep (x : Str) (st : SS) (y : Nat × Str) : SS :=
  if y.2 = ⟨#[34]⟩ then match st.op with
    | none => { st with op := some y.1 }
    | some o => ⟨if st.start ≠ o then st.res ++ [Txt.slice x (some (st.start : Int)) (some (o : Int))] else st.res, y.1 + 1, none⟩
  else st
def sfold (x : Str) : SS := (gen x.cps.toList 0 false).foldl (sstep x) ⟨[], 0, none⟩
def stripP (x : Str) : Str := if (34 : Nat) ∈ x.cps.toList then Txt.join ⟨#[]⟩ (if (sfold x).start < x.length then (sfold x).res ++ [Txt.slice x (some ((sfold x).start : Int)) none] else (sfold x).res) else x
end Mine
set_option maxHeartbeats 8000000
namespace Mine
local macro_rules | `(tactic| ktr_rel) => `(tactic| first | assumption | exact upd_eq | (refine upd_ne ?_ (by decide); ktr_rel))
def oval : Option Nat → Value → Prop
  | none, v => v = .none
  | some o, v => ∃ t, v = .int (o : Int) t
/-- strip's loop: what is left to come, the state so far -/
inductive SInv (w : World) (s₀ : Heap) (env : Env) (cm : Str → Option Value) (x : Str) (R G : Addr) (g : Nat) (ys : List (Nat × Str)) (h : Heap) : Prop
  | mk (m : Str → Option Value) (vs : List Value) (st : SS) (v : Value) (t1 t2 : Tok) (n : Nat) (B : Bd [] s₀ env m cm h) (T : Tp w h) (iG : h.IsGen G g) (e1 : m "addr" = some (.str x t1)) (e2 : m "start" = some (.int (st.start : Int) t2)) (e3 : m "open_pos" = some v) (e4 : oval st.op v) (e5 : m "result" = some (.ref R)) (l : h.PlainList R (List.toArray vs)) (hS : Strs vs st.res)
    (hf : ys.foldl (sstep x) st = sfold x) (hn : n + ys.length ≤ x.length) (hn1 : st.res.length ≤ n) (hn2 : ∀ y ∈ st.res, y.length ≤ x.length) : SInv w s₀ env cm x R G g ys h
theorem beq_dec (x y : Str) : (x == y) = decide (x = y) := by by_cases h : x = y <;> simp [h]
theorem Strs.values {vs : List Value} {xs : List Str} (h : Strs vs xs) : ∃ l : List (Str × Tok), vs = strValues l ∧ l.map (·.1) = xs := by
  induction vs generalizing xs with
  | nil => cases xs; exact ⟨[], rfl, rfl⟩; cases h
  | cons v vs ih =>
    cases xs with
    | nil => cases h
    | cons x xs =>
      unfold Strs at h
      simp only [List.map_cons, List.cons.injEq] at h
      obtain ⟨t, rfl⟩ := sv_eq h.1
      obtain ⟨l, rfl, e⟩ := ih (xs := xs) h.2
      exact ⟨(x, t) :: l, rfl, by simp [e]⟩
theorem sum_le {xs : List Str} {K : Nat} (h : ∀ y ∈ xs, y.length ≤ K) : (xs.map (·.length)).sum ≤ xs.length * K := by
  induction xs with
  | nil => simp
  | cons x xs ih =>
    have := ih fun y hy => h y (.tail _ hy)
    have := h x (.head _)
    simp only [List.map_cons, List.sum_cons, List.length_cons, Nat.add_mul]
    lia
section
variable {w : World} {A : Around} {E : Value → Shared → Prop} {s : Shared}
theorem strip_ok {x : Str} {t : Tok} {Q : Value → Shared → Prop} (T : Tp w s.heap) (k : Ok A 4) (hx : x.length ≤ 1000) (hb : AllBare s.gens)
    (hQ : ∀ t' h' tk gs, Kp [] s.heap h' → AllBare gs → Q (.str (stripP x) t') { s with heap := h', toks := tk, gens := gs }) : wpAny (model pr w) A (call (.ref 35) [.str x t]) Q E s := by
  refine wpAny_call (enter (a := 35) (binds := [("addr", .str x t)]) T k rfl rfl (by kernel_rfl) rfl rfl rfl rfl (by decide) ?_)
  intro h₁ tk A' E' k' env B
  have T0 := T
  obtain ⟨cm, B⟩ : ∃ cm, Bd [] s.heap env _ cm h₁ := ⟨_, B⟩
  have hxs : x.length ≤ sizeLine := by rw [sizeLine_eq]; lia
  refine wpAny_execs_cons (wpAny_If (wpAny_isTrue_Compare1 (wpAny_Constant_str (ldL B.ns (by ktr_rel) (P.notIn_str (wpAny_truthy_bool ?_))))))
  rw [show (!(Builtin.Str.occurrences x (Str.ofString "\"") 0 x.length 1).isEmpty) = decide (34 ∈ x.cps.toList) from StrLaws.found_one x 34]
  by_cases hq : 34 ∈ x.cps.toList
  case neg =>
    rw [if_pos (by simp [hq])]
    refine wpAny_execs_cons (wpAny_Return_some (ldL B.ns (by ktr_rel) ?_))
    have e : stripP x = x := if_neg hq
    rw [e] at hQ
    exact hQ t h₁ _ s.gens B.keep hb
  rw [if_neg (by simp [hq])]
  refine wpAny_execs_nil ?_
  refine hideQ fun Q0 hq0 => ?_
  refine wpAny_execs_cons (wpAny_Assign_Name (wpAny_Constant_int (B.stL fun h₂ B₂ k₂ => ?_)))
  (show wpAny _ _ (execs _ _) _ _ _; refine cut (P := fun st => wpAny _ _ (execs _ _) _ _ st) (h := h₂) (g := s.gens) (d := Shared.drawn s) (o := Shared.os s) fun _ => ?_)
  refine wpAny_execs_cons (wpAny_Assign_Name (wpAny_Constant_none (B₂.stL fun hR B₃ k₃ => ?_)))
  (show wpAny _ _ (execs _ _) _ _ _; refine cut (P := fun st => wpAny _ _ (execs _ _) _ _ st) (h := hR) (g := s.gens) (d := Shared.drawn s) (o := Shared.os s) fun _ => ?_)
  have B3 := B₃.keeps (Kp.push _ _ { cls := .type "list", data := .seq [].toArray })
  have nR := B₃.new (Nat.le_refl _)
  have nR0 := B₃.none (Nat.le_refl _)
  refine wpAny_execs_cons (wpAny_Assign_Name (wpAny_List (wpAny_items_nil ⟨by decide, B3.stL fun h₄ B₄ k₄ => ?_⟩)))
  (show wpAny _ _ (execs _ _) _ _ _; refine cut (P := fun st => wpAny _ _ (execs _ _) _ _ st) (h := h₄) (g := s.gens) (d := Shared.drawn s) (o := Shared.os s) fun _ => ?_)
  have R₄ := kpL (its := [].toArray) ⟨_, Heap.get?_push_size _ rfl⟩ k₄ nR
  have T₄ : Tp w h₄ := T.kp B₄.keep Far.nil
  refine wpAny_execs_cons (wpAny_For (Fn_ T₄ (gl_28 w) (by kernel_rfl) (wpAny_items_cons (ldL B₄.ns (by ktr_rel) (wpAny_items_nil ⟨T₄, gen_new T₄ k' fun G L h₅ tk₅ gs iG k₅ hL hLG hbr hGA => ?_⟩)))))
  refine wpAny_pyIter_gen iG ?_
  have B₅ := B₄.keeps k₅
  have lR : hR.objs.size < h₄.objs.size := by obtain ⟨n, e⟩ := R₄; exact Heap.lt_size e
  have lG : G < h₅.objs.size := by obtain ⟨o, _, _, e, _⟩ := iG; exact Heap.lt_size e
  have nG : G ∉ own env := B₄.new (Nat.le_trans hL (Nat.le_of_lt hLG))
  have nRG : hR.objs.size ≠ G := fun e => Nat.lt_irrefl _ (Nat.lt_of_lt_of_le (e ▸ lR) (Nat.le_trans hL (Nat.le_of_lt hLG)))
  have nG0 : s.heap.get? G = none := B₄.none (Nat.le_trans hL (Nat.le_of_lt hLG))
  refine forG (Z := own env ++ [hR.objs.size, G]) (h₀ := s.heap) (g := s.gens.size) (SInv w s.heap env cm x hR.objs.size G s.gens.size) k'.hd k'.room ?_ (by simp) ?_ ?_ ?_ (fun _ _ q => q) ?_ (hb.push hbr) (hGA _ _ _ k'.hd ?_ (B₄.none hL))
  · rintro ys h ⟨m, vs, st, v, t1, t2, n, B, T, iG, -, -, -, -, -, ⟨nl, R⟩, -⟩
    refine ⟨T, iG, fun b hb => ?_, Nat.le_of_lt (Nat.lt_of_le_of_lt B.fresh B.ns.lt)⟩
    rcases List.mem_append.mp hb with hb | hb
    · exact B.lt b hb
    · rcases List.mem_cons.mp hb with rfl | hb
      · exact Heap.lt_size R
      · rw [List.mem_singleton.mp hb]; obtain ⟨o, _, _, e, _⟩ := iG; exact Heap.lt_size e
  · rintro ys h h' Y ⟨m, vs, st, v, t1, t2, n, B, T, iG, e1, e2, e3, e4, e5, R, e6, e7, e8, e9, e10⟩ hY kY
    have nY : ∀ b ∈ own env ++ [hR.objs.size, G], b ∉ Y := fun b hb q => (hY b q).1 hb
    refine ⟨m, vs, st, v, t1, t2, n, B.stay kY (fun b hb => nY b (List.mem_append_left _ hb)) (fun b hb _ => (hY b hb).2), ?_, ?_, e1, e2, e3, e4, e5, kpL R kY (nY _ (by simp)), e6, e7, e8, e9, e10⟩
    · exact T0.kp (B.stay kY (fun b hb => nY b (List.mem_append_left _ hb)) (fun b hb _ => (hY b hb).2)).keep Far.nil
    · obtain ⟨o, a, b, e, r⟩ := iG
      exact ⟨o, a, b, kY _ _ (nY _ (by simp)) e, r⟩
  · rintro p u r s' tp tu E₂ ⟨m, vs, st, v, t1, t2, n, B, T, iG, e1, e2, e3, e4, e5, R, hS, hf, hn, hn1, hn2⟩ hbr' ⟨h, tk, gs, rfl⟩
    refine B.stL fun h₂ B₂ k₂ => B₂.stL fun h₃ B₃ k₃ => ?_
    refine hideQ fun Q' hq' => ?_
    (show wpAny _ _ (execs _ _) _ _ _; refine cut (P := fun st => wpAny _ _ (execs _ _) _ _ st) (h := h₃) (g := gs) (d := Shared.drawn s) (o := Shared.os s) fun _ => ?_)
    have R3 := kpL (kpL R k₂ nR) k₃ nR
    have kZ : ∀ {h h' : Heap}, Kp (own env) h h' → Kp (own env ++ [hR.objs.size, G]) h h' := fun k => k.mono fun b hb => List.mem_append_left _ hb
    have kR : ∀ {h h' : Heap}, Kp [hR.objs.size] h h' → Kp (own env ++ [hR.objs.size, G]) h h' := fun k => k.mono fun b hb => by rw [List.mem_singleton.mp hb]; simp
    have k03 := (kZ k₂).trans (kZ k₃)
    have gk : ∀ {h h' : Heap} {X : List Addr}, h.IsGen G s.gens.size → Kp X h h' → G ∉ X → h'.IsGen G s.gens.size := fun i k n => let ⟨o, a, b, e, r⟩ := i; ⟨o, a, b, k _ _ n e, r⟩
    have iG3 := gk (gk iG k₂ nG) k₃ nG
    have tpB : ∀ {m : Str → Option Value} {h : Heap}, Bd [] s.heap env m cm h → Tp w h := fun B => T0.kp B.keep Far.nil
    refine wpAny_execs_cons (wpAny_If (wpAny_isTrue_Compare1 (ldL B₃.ns (by ktr_rel) (wpAny_Constant_str (eq_str (wpAny_truthy_bool ?_))))))
    rw [show (u == Str.ofString "\"") = decide (u = ⟨#[34]⟩) from beq_dec _ _]
    simp only [List.length_cons] at hn
    simp only [List.foldl_cons] at hf
    by_cases hu : u = ⟨#[34]⟩
    case neg =>
      rw [if_neg (by simpa using hu)]
      have e : sstep x st (p, u) = st := if_neg hu
      rw [e] at hf
      exact wpAny_execs_nil (wpAny_execs_nil (hq' _ _ ⟨_, _, rfl, ⟨_, vs, st, v, _, _, n, B₃, tpB B₃, iG3, by ktr_rel, by ktr_rel, by ktr_rel, e4, by ktr_rel, R3, hS, hf, by lia, hn1, hn2⟩, k03⟩))
    rw [if_pos (by simpa using hu)]
    refine wpAny_execs_cons (wpAny_If (wpAny_isTrue_Compare1 (ldL B₃.ns (by ktr_rel) (wpAny_Constant_none ?_))))
    cases ho : st.op with
    | none =>
      rw [ho] at e4
      cases e4
      refine is_none_none (wpAny_truthy_bool ?_)
      rw [if_pos rfl]
      have e : sstep x st (p, u) = { st with op := some p } := by simp [sstep, hu, ho]
      rw [e] at hf
      refine wpAny_execs_cons (wpAny_Assign_Name (ldL B₃.ns (by ktr_rel) (B₃.stL fun h₄ B₄ k₄ => wpAny_execs_nil (wpAny_execs_nil (wpAny_execs_nil ?_)))))
      exact hq' _ _ ⟨_, _, rfl, ⟨_, vs, { st with op := some p }, _, _, _, n, B₄, tpB B₄, gk iG3 k₄ nG, by ktr_rel, by ktr_rel, by ktr_rel, ⟨_, rfl⟩, by ktr_rel, kpL R3 k₄ nR, hS, hf, by lia, hn1, hn2⟩, k03.trans (kZ k₄)⟩
    | some o =>
      rw [ho] at e4
      obtain ⟨t3, rfl⟩ := e4
      refine is_int_none (wpAny_truthy_bool ?_)
      rw [if_neg (by decide)]
      refine wpAny_execs_cons (wpAny_mono (Q := fun f s₄ => f = .next ∧ ∃ h tk vs, s₄ = { s with heap := h, toks := tk, gens := gs } ∧ Bd [] s.heap env (upd (upd m "pos" (.int (p : Nat) tp)) "ch" (.str u tu)) cm h ∧ h.IsGen G s.gens.size ∧ Kp (own env ++ [hR.objs.size, G]) h₃ h ∧ h.PlainList hR.objs.size (List.toArray vs) ∧ Strs vs (if st.start ≠ o then st.res ++ [Txt.slice x (some (st.start : Int)) (some (o : Int))] else st.res)) (wpAny_If (wpAny_isTrue_Compare1 (ldL B₃.ns (by ktr_rel) (ldL B₃.ns (by ktr_rel) (ne_int (wpAny_truthy_bool ?_)))))) (fun f s₄ hf' => ?_) (fun _ _ e => e))
      · by_cases hso : st.start = o
        · rw [if_neg (by simp [hso]), if_neg (by simp [hso])]
          exact wpAny_execs_nil ⟨rfl, _, _, vs, rfl, B₃, iG3, Kp.refl _ _, R3, hS⟩
        · rw [if_pos (by simp; lia), if_pos hso]
          refine wpAny_execs_cons (Append_ (ldL B₃.ns (by ktr_rel) ⟨_, _, rfl, R3, Slice_ (ldL B₃.ns (by ktr_rel) (ldL B₃.ns (by ktr_rel) (ldL B₃.ns (by ktr_rel) ⟨x, _, some (_, _), some (_, _), rfl, rfl, rfl, hxs, fun h₄ t' tk' k₄ => ⟨_, kpL R3 k₄ (by simp), ?_, fun h₅ R5 k₅ => wpAny_execs_nil ⟨rfl, _, _, vs ++ [_], rfl, (B₃.keeps k₄).stay1 k₅ nR nR0, gk (gk iG3 k₄ (by simp)) k₅ (notMem1 (Ne.symm nRG)), (k₄.mono (by simp)).trans (kR k₅), by simpa using R5, hS.snoc _ _⟩⟩⟩)))⟩))
          have := hS.length
          rw [List.size_toArray, sizeLine_eq]; lia
      · obtain ⟨rfl, h₄, tk₄, vs', rfl, B₄, iG4, kz4, R4, hS'⟩ := hf'
        refine wpAny_execs_cons (wpAny_Assign_Name (wpAny_BinOp (ldL B₄.ns (by ktr_rel) (wpAny_Constant_int (P.add_int (B₄.stL fun h₅ B₅ k₅ => ?_))))))
        refine wpAny_execs_cons (wpAny_Assign_Name (wpAny_Constant_none (B₅.stL fun h₆ B₆ k₆ => wpAny_execs_nil (wpAny_execs_nil (wpAny_execs_nil ?_)))))
        have e : sstep x st (p, u) = ⟨if st.start ≠ o then st.res ++ [Txt.slice x (some (st.start : Int)) (some (o : Int))] else st.res, p + 1, none⟩ := by simp [sstep, hu, ho]
        rw [e] at hf
        refine hq' _ _ ⟨_, _, rfl, ⟨_, vs', ⟨if st.start ≠ o then st.res ++ [Txt.slice x (some (st.start : Int)) (some (o : Int))] else st.res, p + 1, none⟩, _, _, _, n + 1, B₆, tpB B₆, gk (gk iG4 k₅ nG) k₆ nG, by ktr_rel, by ktr_rel, by ktr_rel, rfl, by ktr_rel, kpL (kpL R4 k₅ nR) k₆ nR, hS', hf, by lia, ?_, ?_⟩, ((k03.trans kz4).trans (kZ k₅)).trans (kZ k₆)⟩
        · show (if st.start ≠ o then _ else _ : List Str).length ≤ _
          split <;> (try rw [List.length_append, List.length_singleton]) <;> lia
        · show ∀ y ∈ (if st.start ≠ o then _ else _ : List Str), _
          split
          · intro y hy
            rcases List.mem_append.mp hy with hy | hy
            · exact hn2 y hy
            · rw [List.mem_singleton.mp hy]; exact Txt.slice_le _ _ _
          · exact hn2
  · rintro h tk gs ⟨m, vs, st, v, t1, t2, n, B, T, iG, e1, e2, e3, e4, e5, R, hS, hf, hn, hn1, hn2⟩ hbr'
    simp only [List.foldl_nil] at hf
    subst hf
    have hl : (sfold x).res.length ≤ 1000 := by simp at hn; lia
    refine wpAny_execs_cons (wpAny_mono (Q := fun f s₄ => f = .next ∧ ∃ h tk vs, s₄ = { s with heap := h, toks := tk, gens := gs } ∧ Bd [] s.heap env m cm h ∧ h.PlainList hR.objs.size (List.toArray vs) ∧ Strs vs (if (sfold x).start < x.length then (sfold x).res ++ [Txt.slice x (some ((sfold x).start : Int)) none] else (sfold x).res))
      (wpAny_If (wpAny_isTrue_Compare1 (ldL B.ns (by ktr_rel) (Bi_ T (gn_len w) bb_len (wpAny_items_cons (ldL B.ns (by ktr_rel) (wpAny_items_nil (P.len_str (by lia) (P.lt_int (wpAny_truthy_bool ?_)))))))))) (fun f s₄ hf' => ?_) (fun _ _ e => e))
    · by_cases hso : (sfold x).start < x.length
      · rw [if_pos (by simpa using hso), if_pos hso]
        refine wpAny_execs_cons (Append_ (ldL B.ns (by ktr_rel) ⟨_, _, rfl, R, Slice_ (ldL B.ns (by ktr_rel) (ldL B.ns (by ktr_rel) (wpAny_pure ⟨x, _, some (_, _), none, rfl, rfl, rfl, hxs, fun h₄ t' tk' k₄ => ⟨_, kpL R k₄ (by simp), ?_, fun h₅ R5 k₅ => wpAny_execs_nil ⟨rfl, _, _, vs ++ [_], rfl, (B.keeps k₄).stay1 k₅ nR nR0, by simpa using R5, hS.snoc _ _⟩⟩⟩)))⟩))
        have := hS.length
        rw [List.size_toArray, sizeLine_eq]; lia
      · rw [if_neg (by simpa using hso), if_neg hso]
        exact wpAny_execs_nil ⟨rfl, _, _, vs, rfl, B, R, hS⟩
    · obtain ⟨rfl, h₄, tk₄, vs', rfl, B₄, R4, hS'⟩ := hf'
      obtain ⟨l, rfl, hl'⟩ := hS'.values
      refine wpAny_execs_cons (wpAny_Return_some (Meth_ (wpAny_Constant_str (SB.join (ldL B₄.ns (by ktr_rel) ⟨_, l, rfl, R4.isList, _, hl', ?_, fun t' k => ?_⟩)))))
      · refine joinOk_of ?_
        have a : ∀ y ∈ (if (sfold x).start < x.length then (sfold x).res ++ [Txt.slice x (some ((sfold x).start : Int)) none] else (sfold x).res), y.length ≤ 1000 := by
          split
          · intro y hy
            rcases List.mem_append.mp hy with hy | hy
            · exact Nat.le_trans (hn2 y hy) hx
            · rw [List.mem_singleton.mp hy]; exact Nat.le_trans (Txt.slice_le _ _ _) hx
          · exact fun y hy => Nat.le_trans (hn2 y hy) hx
        have b := sum_le a
        have c : (if (sfold x).start < x.length then (sfold x).res ++ [Txt.slice x (some ((sfold x).start : Int)) none] else (sfold x).res).length ≤ 1001 := by
          split <;> (try rw [List.length_append, List.length_singleton]) <;> lia
        have d : (Str.ofString "").length = 0 := rfl
        rw [d]
        lia
      · have e : stripP x = Txt.join (Str.ofString "") (if (sfold x).start < x.length then (sfold x).res ++ [Txt.slice x (some ((sfold x).start : Int)) none] else (sfold x).res) := if_pos hq
        rw [← e]
        exact hq0 _ _ (hQ _ _ _ _ B₄.keep hbr')
  · have gl := gen_len x.cps.toList 0 false
    refine ⟨_, [], ⟨[], 0, none⟩, _, _, _, 0, B₅, T0.kp B₅.keep Far.nil, iG, by ktr_rel, by ktr_rel, by ktr_rel, rfl, by ktr_rel, kpL R₄ k₅ (by simp), Strs.nil, rfl, ?_, Nat.le_refl _, fun _ q => nomatch q⟩
    simp at gl
    show 0 + _ ≤ x.cps.size
    lia
  · intro q
    rcases List.mem_append.mp q with q | q
    · exact B₄.new hL q
    · rcases List.mem_cons.mp q with q | q
      · exact Nat.lt_irrefl _ (Nat.lt_of_lt_of_le lR (q ▸ hL))
      · rw [List.mem_singleton.mp q] at hLG; exact Nat.lt_irrefl _ hLG
end
end Mine
set_option maxHeartbeats 2000000
namespace Mine
local macro_rules | `(tactic| ktr_rel) => `(tactic| first | assumption | exact upd_eq | (refine upd_ne ?_ (by decide); ktr_rel))
/-- check's loop -/
def chk : List (Nat × Str) → Int → Bool
  | [], n => n == 0
  | (_, u) :: r, n => if u = ⟨#[40]⟩ then chk r (n + 1) else if u = ⟨#[41]⟩ then (if n - 1 < 0 then false else chk r (n - 1)) else chk r n
def checkP (x : Str) : Bool := chk (gen (stripP x).cps.toList 0 false) 0
inductive CInv (s₀ : Heap) (env : Env) (cm : Str → Option Value) (b : Bool) (G : Addr) (g : Nat) (ys : List (Nat × Str)) (h : Heap) : Prop
  | mk (m : Str → Option Value) (n : Int) (t : Tok) (B : Bd [] s₀ env m cm h) (iG : h.IsGen G g) (e : m "opens" = some (.int n t)) (r : chk ys n = b) : CInv s₀ env cm b G g ys h
section
variable {w : World} {A : Around} {E : Value → Shared → Prop} {s : Shared}
theorem check_ok {x : Str} {t : Tok} {Q : Value → Shared → Prop} (T : Tp w s.heap) (k : Ok A 5) (hx : x.length ≤ 1000) (hb : AllBare s.gens)
    (hQ : ∀ h' tk gs, Kp [] s.heap h' → AllBare gs → Q (.bool (checkP x)) { s with heap := h', toks := tk, gens := gs }) : wpAny (model pr w) A (call (.ref 42) [.str x t]) Q E s := by
  refine wpAny_call (enter (a := 42) (binds := [("addr", .str x t)]) T k rfl rfl (by kernel_rfl) rfl rfl rfl rfl (by decide) ?_)
  intro h₁ tk A' E' k' env B
  have T0 := T
  obtain ⟨cm, B⟩ : ∃ cm, Bd [] s.heap env _ cm h₁ := ⟨_, B⟩
  have tpB : ∀ {m : Str → Option Value} {h : Heap}, Bd [] s.heap env m cm h → Tp w h := fun B => T0.kp B.keep Far.nil
  refine wpAny_execs_cons (wpAny_Assign_Name (Fn_ (tpB B) (gl_35 w) (by kernel_rfl) (wpAny_items_cons (ldL B.ns (by ktr_rel) (wpAny_items_nil ⟨tpB B, strip_ok (tpB B) k' hx hb fun t' h₂ tk₂ gs₂ k₂ hb₂ => (B.keeps k₂).stL fun h₃ B₃ k₃ => ?_⟩)))))
  refine wpAny_execs_cons (wpAny_Assign_Name (wpAny_Constant_int (B₃.stL fun h₄ B₄ k₄ => ?_)))
  refine wpAny_execs_cons (wpAny_For (Fn_ (tpB B₄) (gl_28 w) (by kernel_rfl) (wpAny_items_cons (ldL B₄.ns (by ktr_rel) (wpAny_items_nil ⟨tpB B₄, gen_new (tpB B₄) k' fun G L h₅ tk₅ gs iG k₅ hL hLG hbr hGA => ?_⟩)))))
  refine wpAny_pyIter_gen iG ?_
  have B₅ := B₄.keeps k₅
  have nG : G ∉ own env := B₄.new (Nat.le_trans hL (Nat.le_of_lt hLG))
  have gk : ∀ {h h' : Heap} {X : List Addr}, h.IsGen G gs₂.size → Kp X h h' → G ∉ X → h'.IsGen G gs₂.size := fun i k n => let ⟨o, a, b, e, r⟩ := i; ⟨o, a, b, k _ _ n e, r⟩
  have kZ : ∀ {h h' : Heap}, Kp (own env) h h' → Kp (own env ++ [G]) h h' := fun k => k.mono fun b hb => List.mem_append_left _ hb
  refine forG (Z := own env ++ [G]) (h₀ := s.heap) (g := gs₂.size) (CInv s.heap env cm (checkP x) G gs₂.size) k'.hd k'.room ?_ (by simp) ?_ ?_ ?_ (fun _ _ q => q) ?_ (hb₂.push hbr) (hGA _ _ _ k'.hd ?_ (B₄.none hL))
  · rintro ys h ⟨m, n, t, B, iG, -⟩
    refine ⟨tpB B, iG, fun b hb => ?_, Nat.le_of_lt (Nat.lt_of_le_of_lt B.fresh B.ns.lt)⟩
    rcases List.mem_append.mp hb with hb | hb
    · exact B.lt b hb
    · rw [List.mem_singleton.mp hb]; obtain ⟨o, _, _, e, _⟩ := iG; exact Heap.lt_size e
  · rintro ys h h' Y ⟨m, n, t, B, iG, r, r2⟩ hY kY
    have nY : ∀ b ∈ own env ++ [G], b ∉ Y := fun b hb q => (hY b q).1 hb
    exact ⟨m, n, t, B.stay kY (fun b hb => nY b (List.mem_append_left _ hb)) (fun b hb _ => (hY b hb).2), gk iG kY (nY _ (by simp)), r, r2⟩
  · rintro p u r s' tp tu E₂ ⟨m, n, t1, B, iG, e1, hf⟩ hbr' ⟨h, tk, gs, rfl⟩
    refine B.stL fun h₂ B₂ k₂ => B₂.stL fun h₃ B₃ k₃ => ?_
    have k03 := (kZ k₂).trans (kZ k₃)
    have iG3 := gk (gk iG k₂ nG) k₃ nG
    refine wpAny_execs_cons (wpAny_If (wpAny_isTrue_Compare1 (ldL B₃.ns (by ktr_rel) (wpAny_Constant_str (eq_str (wpAny_truthy_bool ?_))))))
    rw [show (u == Str.ofString "(") = decide (u = ⟨#[40]⟩) from beq_dec _ _]
    by_cases h1 : u = ⟨#[40]⟩
    · rw [if_pos (by simpa using h1)]
      rw [chk, if_pos h1] at hf
      refine wpAny_execs_cons (wpAny_AugAssign_Name (ldn B₃.ns (by ktr_rel) (wpAny_Constant_int (P.iadd_int (B₃.stL fun h₄ B₄ k₄ => wpAny_execs_nil (wpAny_execs_nil ?_))))))
      exact ⟨_, _, rfl, ⟨_, _, _, B₄, gk iG3 k₄ nG, by ktr_rel, hf⟩, k03.trans (kZ k₄)⟩
    · rw [if_neg (by simpa using h1)]
      rw [chk, if_neg h1] at hf
      refine wpAny_execs_cons (wpAny_If (wpAny_isTrue_Compare1 (ldL B₃.ns (by ktr_rel) (wpAny_Constant_str (eq_str (wpAny_truthy_bool ?_))))))
      rw [show (u == Str.ofString ")") = decide (u = ⟨#[41]⟩) from beq_dec _ _]
      by_cases h2 : u = ⟨#[41]⟩
      · rw [if_pos (by simpa using h2)]
        rw [if_pos h2] at hf
        refine wpAny_execs_cons (wpAny_AugAssign_Name (ldn B₃.ns (by ktr_rel) (wpAny_Constant_int (P.isub_int (B₃.stL fun h₄ B₄ k₄ => ?_)))))
        refine wpAny_execs_cons (wpAny_If (wpAny_isTrue_Compare1 (ldL B₄.ns (by ktr_rel) (wpAny_Constant_int (P.lt_int (wpAny_truthy_bool ?_))))))
        by_cases h3 : n - 1 < 0
        · rw [if_pos (by simpa using h3)]
          rw [if_pos h3] at hf
          refine wpAny_execs_cons (wpAny_Return_some (wpAny_Constant_bool ?_))
          rw [← hf] at hQ
          exact hQ _ _ _ B₄.keep hbr'
        · rw [if_neg (by simpa using h3)]
          rw [if_neg h3] at hf
          exact wpAny_execs_nil (wpAny_execs_nil (wpAny_execs_nil (wpAny_execs_nil ⟨_, _, rfl, ⟨_, _, _, B₄, gk iG3 k₄ nG, by ktr_rel, hf⟩, k03.trans (kZ k₄)⟩)))
      · rw [if_neg (by simpa using h2)]
        rw [if_neg h2] at hf
        exact wpAny_execs_nil (wpAny_execs_nil (wpAny_execs_nil ⟨_, _, rfl, ⟨_, _, _, B₃, iG3, by ktr_rel, hf⟩, k03⟩))
  · rintro h tk gs ⟨m, n, t1, B, iG, e1, hf⟩ hbr'
    refine wpAny_execs_cons (wpAny_Return_some (wpAny_Compare1 (ldL B.ns (by ktr_rel) (wpAny_Constant_int (P.eq_int ?_)))))
    rw [← show (n == 0) = checkP x from hf] at hQ
    exact hQ _ _ _ B.keep hbr'
  · exact ⟨_, _, _, B₅, iG, by ktr_rel, rfl⟩
  · intro q
    rcases List.mem_append.mp q with q | q
    · exact B₄.new hL q
    · rw [List.mem_singleton.mp q] at hLG; exact Nat.lt_irrefl _ hLG
end
end Mine
set_option maxHeartbeats 2000000
namespace Mine
/-- the heap below L -/
def pre (h : Heap) (L : Nat) : Heap := ⟨h.objs.extract 0 L, h.life⟩
theorem pre_get {h : Heap} {L b : Nat} {o : Obj} (e : (pre h L).get? b = some o) : h.get? b = some o ∧ b < L := by
  have hb : b < (pre h L).objs.size := Heap.lt_size e
  have hb' : b < L := by have : b < (h.objs.extract 0 L).size := hb; simp at this; lia
  have he : (pre h L).objs[b]? = h.objs[b]? := by
    show (h.objs.extract 0 L)[b]? = _
    rw [Array.getElem?_extract]
    have : b < (h.objs.extract 0 L).size := hb
    simp at this
    simp; lia
  unfold Heap.get? at e ⊢
  rw [he] at e
  exact ⟨e, hb'⟩
theorem pre_of {h : Heap} {L b : Nat} {o : Obj} (e : h.get? b = some o) (hb : b < L) : (pre h L).get? b = some o := by
  have hs := Heap.lt_size e
  have he : (pre h L).objs[b]? = h.objs[b]? := by
    show (h.objs.extract 0 L)[b]? = _
    rw [Array.getElem?_extract]
    simp; lia
  unfold Heap.get? at e ⊢
  rw [he]
  exact e
theorem pre_size (h : Heap) (L : Nat) : (pre h L).objs.size ≤ L := by show (h.objs.extract 0 L).size ≤ L; simp; lia
/-- the objects above L -/
def post (h : Heap) (L : Addr) : List (Addr × Obj) := (List.range h.objs.size).filterMap fun b => if L < b then (h.get? b).map fun o => (b, o) else none
theorem mem_post {h : Heap} {L b : Addr} {o : Obj} : (b, o) ∈ post h L ↔ L < b ∧ h.get? b = some o := by
  unfold post
  rw [List.mem_filterMap]
  constructor
  · rintro ⟨a, _, h2⟩
    split at h2
    · cases e : h.get? a with
      | none => rw [e] at h2; cases h2
      | some o' => rw [e] at h2; cases h2; exact ⟨by assumption, e⟩
    · cases h2
  · rintro ⟨h1, h2⟩
    exact ⟨b, List.mem_range.mpr (Heap.lt_size h2), by rw [if_pos h1, h2]; rfl⟩
theorem brFr {h : Heap} {L : Addr} {m : Str → Option Value} (ns : h.Ns L m) : Fr (pre h L) L h m := ⟨ns, fun _ _ e => (pre_get e).1, pre_size h L⟩
theorem pre_none {h : Heap} {L b : Addr} (hb : L ≤ b) : (pre h L).get? b = none := by
  cases e : (pre h L).get? b with
  | none => rfl
  | some o => exact absurd (Nat.lt_of_lt_of_le (pre_get e).2 hb) (Nat.lt_irrefl _)
theorem brN {h : Heap} {L : Addr} : News (pre h L) L h (post h L) := fun p hp => by
  obtain ⟨b, o⟩ := p
  obtain ⟨h1, h2⟩ := mem_post.mp hp
  exact ⟨h2, Nat.ne_of_gt h1, pre_none (Nat.le_of_lt h1)⟩
theorem brBack {h h' : Heap} {L : Addr} {m : Str → Option Value} {news : List (Addr × Obj)} (F : Fr (pre h L) L h' m) (N : News (pre h L) L h' news) (X : List Addr) (sub : ∀ b o, b ∉ X → (b, o) ∈ post h L → (b, o) ∈ news) : Kp (L :: X) h h' := fun b o n e => by
  have h1 : b ≠ L := fun q => n (by rw [q]; exact .head _)
  have h2 : b ∉ X := fun q => n (.tail _ q)
  by_cases hb : b < L
  · exact F.keep b o (pre_of e hb)
  · exact (N _ (sub b o h2 (mem_post.mpr ⟨Nat.lt_of_le_of_ne (Nat.not_lt.mp hb) (Ne.symm h1), e⟩))).1
theorem preK {w : World} {h : Heap} {L : Addr} (T : Tp w h) (hL : 115 ≤ L) : (KF w).In (pre h L) := fun a o e => pre_of (T.K a o e) (Nat.lt_of_lt_of_le (lowK e).1 hL)
/-- a namespace over again: what a rule kept of it -/
theorem Bd.back {X : List Addr} {h₀ h h' : Heap} {env : Env} {m cm : Str → Option Value} (B : Bd X h₀ env m cm h) (k : Kp [env.locals] h h') (ns : h'.Ns env.locals m) : Bd X h₀ env m cm h' where
  ns := ns
  cell := fun x c hc => let ⟨o, ho, hd⟩ := B.cell x c hc; ⟨o, k c o (notMem1 (Nat.ne_of_gt (B.above x c (mem_of_lookup hc)))) ho, hd⟩
  apart := B.apart
  above := B.above
  keep := fun b o hb e => k b o (notMem1 (Nat.ne_of_lt (Nat.lt_of_lt_of_le (Heap.lt_size e) B.fresh))) (B.keep b o hb e)
  fresh := B.fresh
  nd := B.nd
theorem Bd.low {X : List Addr} {h₀ h : Heap} {env : Env} {m cm : Str → Option Value} {w : World} (B : Bd X h₀ env m cm h) (T : Tp w h₀) : 115 ≤ env.locals := Nat.le_trans T.size B.fresh
end Mine
set_option maxHeartbeats 2000000
namespace Mine
local macro_rules | `(tactic| ktr_rel) => `(tactic| first | assumption | exact upd_eq | (refine upd_ne ?_ (by decide); ktr_rel))
theorem k_makes (w : World) : makesIn (KF w) 73 = true := by kernel_rfl
theorem k_init (w : World) : findIn (KF w) (.ref 73) "__init__" = some (some (.builtin "object.__init__")) := by kernel_rfl
theorem k_set (w : World) : findIn (KF w) (.ref 73) "__setattr__" = some (some (.builtin "object.__setattr__")) := by kernel_rfl
theorem k_over (w : World) : plainOver (KF w) 73 = true := by kernel_rfl
theorem k_has (w : World) : hasDictIn (KF w) 73 = true := by kernel_rfl
theorem k_tk1 (w : World) : takerIn (KF w) 73 "handler_order" = some none := by kernel_rfl
theorem k_tk2 (w : World) : takerIn (KF w) 73 "place" = some none := by kernel_rfl
theorem k_keep73 (w : World) : keepIn (KF w) (.ref 73) = true := by kernel_rfl
theorem k_get (w : World) (n : Str) : plainGet (KF w) 73 n = true := by kernel_rfl
theorem k_find1' (w : World) : (match findIn (KF w) (.ref 73) "handler_order" with | some a => noGet (KF w) a | none => false) = true := by kernel_rfl
theorem k_find1 (w : World) : ∃ a, findIn (KF w) (.ref 73) "handler_order" = some a ∧ noGet (KF w) a = true := by
  have h := k_find1' w
  split at h
  · exact ⟨_, by assumption, h⟩
  · cases h
theorem k_find2 (w : World) : findIn (KF w) (.ref 73) "place" = some none := by kernel_rfl
/-- a handler, its order and place; both its parts at N or above -/
inductive IsH (N : Nat) (h : Heap) (x : Addr) (o p : Value) : Prop
  | mk (dx : Addr) (es : List DictEntry) (n : Nat) (h1 : N ≤ x) (h2 : N ≤ dx) (h3 : h.get? x = some (instObj 73 dx)) (h4 : h.get? dx = some (dictOf es n)) (h5 : getL "handler_order" es = some (some o)) (h6 : getL "place" es = some (some p)) : IsH N h x o p
theorem IsH.kp {N : Nat} {h h' : Heap} {x : Addr} {o p : Value} {X : List Addr} (i : IsH N h x o p) (k : Kp X h h') (n : ∀ b ∈ X, b < N) : IsH N h' x o p := by
  obtain ⟨dx, es, m, h1, h2, h3, h4, h5, h6⟩ := i
  exact ⟨dx, es, m, h1, h2, k _ _ (fun q => Nat.lt_irrefl _ (Nat.lt_of_lt_of_le (n _ q) h1)) h3, k _ _ (fun q => Nat.lt_irrefl _ (Nat.lt_of_lt_of_le (n _ q) h2)) h4, h5, h6⟩
section
variable {w : World} {A : Around} {E : Value → Shared → Prop} {s : Shared} {L : Addr} {m : Str → Option Value}
theorem makeH {Q : Value → Shared → Prop} (T : Tp w s.heap)
    (h : ∀ h', Kp [] s.heap h' → h'.get? (s.heap.objs.size + 1) = some (instObj 73 s.heap.objs.size) → h'.get? s.heap.objs.size = some (dictOf [] 0) → Q (.ref (s.heap.objs.size + 1)) { s with heap := h' }) :
    wpAny (model pr w) A (call (.ref 73) [] []) Q E s := by
  refine wpAny_call ?_
  have X := T.K
  obtain ⟨hh, g, d, t, os⟩ := s
  dsimp only at X h
  have Y := makes_of (M := model pr w) X (k_makes w)
  refine make_core Y (looks_findIn X (k_init w)) (fun self => Looks.of_pure (oi_bind self)) (.inr ⟨rfl, rfl⟩) ?_
  have hx : ((hh.push emptyDict).push (instObj 73 hh.objs.size)).get? (hh.objs.size + 1) = some (instObj 73 hh.objs.size) := by
    have := Heap.get?_push_size (hh.push emptyDict) (show Obj.isFreed (instObj 73 hh.objs.size) = false from rfl)
    rw [Heap.size_push] at this
    exact this
  have hdx : ((hh.push emptyDict).push (instObj 73 hh.objs.size)).get? hh.objs.size = some emptyDict := Heap.get?_push_of_some _ (Heap.get?_push_size _ rfl)
  have t1 : Looks (model pr w) ((hh.push emptyDict).push (instObj 73 hh.objs.size)) (typeOf (.ref (hh.objs.size + 1))) (.ref 73) := (Looks.ld (part := none) hx).andThen .now
  have t2 : Looks (model pr w) ((hh.push emptyDict).push (instObj 73 hh.objs.size)) (isInstance (.ref (hh.objs.size + 1)) (.type "object")) true := t1.andThen (Y.top.keeps fun b o e => Heap.get?_push_of_some _ (Heap.get?_push_of_some _ e))
  have z := h ((hh.push emptyDict).push (instObj 73 hh.objs.size)) (fun b o _ e => Heap.get?_push_of_some _ (Heap.get?_push_of_some _ e)) hx hdx
  refine codeAny_call_builtin oi_plain entry_oi (@check_slot (model pr w) _ _ _ "object.__init__" "object" "__init__" (.ref (hh.objs.size + 1)) [] [] _ oi_kind oi_split t2 (oi_args (.ref (hh.objs.size + 1))) ?_)
  rw [oi_run]
  exact wpAny_pure (And.intro rfl z)
theorem setH {x dx : Addr} {es : List DictEntry} {n : Nat} {name : Str} {v : Value} {Q : Unit → Shared → Prop} (ns : s.heap.Ns L m) (T : Tp w s.heap) (hL : 115 ≤ L) (lt : L < dx) (hx : s.heap.get? x = some (instObj 73 dx)) (hdx : s.heap.get? dx = some (dictOf es n))
    (ht : takerIn (KF w) 73 name = some none) (hl : (getL name es).isSome = true) (hz : (putL name (PyData.keyHash w.params name) (.str name (s.toks + 1)) v es).length ≤ 1000)
    (h : ∀ h', h'.Ns L m → Kp [L, dx] s.heap h' → h'.get? dx = some (dictOf (putL name (PyData.keyHash w.params name) (.str name (s.toks + 1)) v es) (putN name es n)) → Q () { s with heap := h', toks := s.toks + 2 }) :
    wpAny (model pr w) A (setAttr (.ref x) name v) Q E s := by
  have N : News (pre s.heap L) L s.heap ((dx, dictOf es n) :: (post s.heap L).filter fun p => p.1 != dx) := fun p hp => by
    rcases List.mem_cons.mp hp with rfl | hp
    · exact ⟨hdx, Nat.ne_of_gt lt, pre_none (Nat.le_of_lt lt)⟩
    · exact brN p (List.mem_filter.mp hp).1
  refine set_dict (brFr ns) (preK T hL) N ⟨hx, rfl, rfl, hdx⟩ rfl (k_set w) (k_over w) ht (k_has w) hl rfl (.head fun p hp => by simpa using (List.mem_filter.mp hp).2) hz fun h' F' N' => ?_
  exact h h' F'.ns (brBack F' N' [dx] fun b o hb q => .tail _ (List.mem_filter.mpr ⟨q, by simpa using hb⟩)) (N' _ (.head _)).1
theorem getH1 {N : Nat} {x : Addr} {o p : Value} {Q : Value → Shared → Prop} {expr : Bool} (ns : s.heap.Ns L m) (T : Tp w s.heap) (hL : 115 ≤ L) (i : IsH N s.heap x o p) (hv : handedIn o = true) (h : Q o { s with toks := s.toks + 1 }) :
    wpAny (model pr w) A (getAttr (.ref x) "handler_order" expr) Q E s := by
  obtain ⟨dx, es, n, _, _, h3, h4, h5, _⟩ := i
  obtain ⟨a, ha, hn⟩ := k_find1 w
  exact get_own (brFr ns) (preK T hL) ⟨h3, rfl, rfl, h4⟩ (k_get w _) (k_has w) ha hn h5 hv h
theorem getH2 {N : Nat} {x : Addr} {o p : Value} {Q : Value → Shared → Prop} {expr : Bool} (ns : s.heap.Ns L m) (T : Tp w s.heap) (hL : 115 ≤ L) (i : IsH N s.heap x o p) (hv : handedIn p = true) (h : Q p { s with toks := s.toks + 1 }) :
    wpAny (model pr w) A (getAttr (.ref x) "place" expr) Q E s := by
  obtain ⟨dx, es, n, _, _, h3, h4, _, h5⟩ := i
  exact get_own (brFr ns) (preK T hL) ⟨h3, rfl, rfl, h4⟩ (k_get w _) (k_has w) (k_find2 w) rfl h5 hv h
theorem handler_ok {o p : Value} {Q : Value → Shared → Prop} (T : Tp w s.heap) (k : Ok A 1)
    (hQ : ∀ x h' tk, IsH s.heap.objs.size h' x o p → Kp [] s.heap h' → Q (.ref x) { s with heap := h', toks := tk }) : wpAny (model pr w) A (call (.ref 89) [o, p]) Q E s := by
  refine wpAny_call (enter (a := 89) (binds := [("order", o), ("place", p)]) T k rfl rfl (by kernel_rfl) rfl rfl rfl rfl (by decide) ?_)
  intro h₁ tk A' E' k' env B
  obtain ⟨cm, B⟩ : ∃ cm, Bd [] s.heap env _ cm h₁ := ⟨_, B⟩
  have tpB : ∀ {m : Str → Option Value} {h : Heap}, Bd [] s.heap env m cm h → Tp w h := fun B => T.kp B.keep Far.nil
  have hL := B.low T
  refine wpAny_execs_cons (wpAny_Assign_Name (Call_ (ldF (tpB B) (gl_73 w) (PySem.W.callWith_K0 (tpB B).K (k_keep73 w) (makeH (tpB B) fun h₂ k₂ ox odx => (B.keeps k₂).stL fun h₃ B₃ k₃ => ?_)))))
  have nox := B.new (Nat.le_succ h₁.objs.size)
  have nodx := B.new (Nat.le_refl h₁.objs.size)
  have ldL' : env.locals < h₁.objs.size := B.ns.lt
  have oL : ∀ {h h' : Heap}, Kp [env.locals, h₁.objs.size] h h' → h.get? (h₁.objs.size + 1) = some (instObj 73 h₁.objs.size) → h'.get? (h₁.objs.size + 1) = some (instObj 73 h₁.objs.size) := fun k e => k _ _ (by
    intro q
    rcases List.mem_cons.mp q with q | q
    · exact nox (by rw [show h₁.objs.size.succ = env.locals from q]; exact .head _)
    · exact Nat.succ_ne_self _ (List.mem_singleton.mp q)) e
  have bk : ∀ {h h' : Heap} {m : Str → Option Value}, Bd [] s.heap env m cm h → Kp [env.locals, h₁.objs.size] h h' → h'.Ns env.locals m → Bd [] s.heap env m cm h' := fun {h h' m} B' k ns =>
    { ns := ns
      cell := fun x c hc => by cases hc
      apart := B'.apart
      above := B'.above
      keep := fun b o hb e => k b o (by
        intro q
        have lb := Nat.lt_of_lt_of_le (Heap.lt_size e) B'.fresh
        rcases List.mem_cons.mp q with q | q
        · exact Nat.ne_of_lt lb q
        · exact Nat.ne_of_lt (Nat.lt_trans lb ldL') (List.mem_singleton.mp q)) (B'.keep b o hb e)
      fresh := B'.fresh
      nd := B'.nd }
  refine wpAny_execs_cons (plainObj_wpAny_Assign_Attribute (ldL B₃.ns (by ktr_rel) (ldL B₃.ns (by ktr_rel) (setH B₃.ns (tpB B₃) hL ldL' (k₃ _ _ nox ox) (k₃ _ _ nodx odx) (k_tk1 w) rfl (Nat.le_of_ble_eq_true rfl) fun h₄ ns₄ k₄ o₄ => ?_))))
  have B₄ := bk B₃ k₄ ns₄
  refine wpAny_execs_cons (plainObj_wpAny_Assign_Attribute (ldL B₄.ns (by ktr_rel) (ldL B₄.ns (by ktr_rel) (setH B₄.ns (tpB B₄) hL ldL' (oL k₄ (k₃ _ _ nox ox)) o₄ (k_tk2 w) rfl (Nat.le_of_ble_eq_true rfl) fun h₅ ns₅ k₅ o₅ => ?_))))
  have B₅ := bk B₄ k₅ ns₅
  refine wpAny_execs_cons (wpAny_Return_some (ldL B₅.ns (by ktr_rel) ?_))
  have sz : s.heap.objs.size ≤ h₁.objs.size := Nat.le_trans B.fresh (Nat.le_of_lt B.ns.lt)
  exact hQ _ _ _ ⟨_, _, _, Nat.le_succ_of_le sz, sz, oL k₅ (oL k₄ (k₃ _ _ nox ox)), o₅, rfl, rfl⟩ B₅.keep
end
end Mine
set_option maxHeartbeats 2000000
namespace Mine
theorem slot_fn_sa : Slot "function" "__setattr__" "object.__setattr__" :=
  .of (owner := "object") (n := "__setattr__") (by rw [typeLookup_type, builtinLookup_eq_fast]; kernel_rfl) (by decide +kernel) (by decide +kernel) (by decide +kernel)
    (by first | exact .inl (by decide +kernel) | exact .inr (by decide +kernel)) (by rw [isSubtype_type]; kernel_rfl)
theorem mro_fn : mroOf (.type "function") = pure [.type "function", .type "object"] := by kernel_rfl
theorem pass_fn (self : Value) : refuseLoop self "__setattr__" [.type "function", .type "object"] = pure () := by kernel_rfl
theorem look_fn1 : typeLookup (.type "function") "handler_order" = pure none := by rw [typeLookup_type, builtinLookup_eq_fast]; kernel_rfl
theorem look_fn2 : typeLookup (.type "function") "place" = pure none := by rw [typeLookup_type, builtinLookup_eq_fast]; kernel_rfl
theorem tells_fn (f : Addr) : ownStreamTells (.ref f) (.type "function") = pure () := rfl
theorem made_fn (f d : Addr) : dictMade (.type "function") f d = pure (some d) := by
  unfold dictMade
  dsimp only
  rw [if_neg (by decide +kernel)]
theorem args_sa (a b c : Value) : argsOk "object.__setattr__" ⟨[a, b, c], []⟩ := by unfold argsOk; kernel_rfl
abbrev fnObj (od : Option Addr) (fd : FuncData) : Obj := { cls := .type "function", dict := od, data := .func fd }
/-- the attributes of a function object -/
def IsF (h : Heap) (f : Addr) (ds : List Addr) (m : Str → Option Value) : Prop :=
  (∃ fd, h.get? f = some (fnObj none fd) ∧ ds = [] ∧ ∀ n, m n = none) ∨ (∃ fd dx, h.get? f = some (fnObj (some dx) fd) ∧ ds = [dx] ∧ h.Ns1 dx m)
section
variable {w : World} {A : Around} {E : Value → Shared → Prop} {s : Shared}
theorem setF {f : Addr} {ds : List Addr} {name : Str} {v : Value} {mA : Str → Option Value} {ns : List Str} {Q : Unit → Shared → Prop} (i : IsF s.heap f ds mA) (hw : PySem.Within mA ns) (hz : ns.length ≤ 10) (hl : typeLookup (.type "function") name = pure none)
    (h : ∀ h' tk dx, IsF h' f [dx] (upd mA name v) → (ds = [dx] ∨ s.heap.objs.size = dx) → Kp [f, dx] s.heap h' → Q () { s with heap := h', toks := tk }) : wpAny (model pr w) A (setAttr (.ref f) name v) Q E s := by
  have ty : ∀ tk, ({ s with toks := tk } : Shared).TypeIs (.ref f) "function" := fun tk => by rcases i with ⟨fd, e, _⟩ | ⟨fd, dx, e, _⟩ <;> exact ⟨_, e, rfl⟩
  unfold setAttr
  refine wpAny_bind (wpAny_mkText (wpAny_bind (wpAny_callSpecial?_slot (name := Str.ofString "__setattr__") (ty _) slot_fn_sa (wpAny_call_entry slot_fn_sa (ty _) F.entry_object_sa ?_ (args_sa _ _ _)))))
  rw [osa_eq, refuse_eq]
  refine wpAny_bind (wpAny_bind (wpAny_typeOf (ty _) ?_))
  rw [mro_fn]
  refine wpAny_bind (wpAny_pure ?_)
  rw [pass_fn]
  refine wpAny_pure (wpAny_bind (wpAny_typeOf (ty _) ?_))
  rw [hl]
  refine wpAny_bind (wpAny_pure (wpAny_bind (wpAny_pure ?_)))
  dsimp only
  unfold Builtin.ObjectAttr.storeInOwnDict
  rw [tells_fn]
  refine wpAny_bind (wpAny_pure ?_)
  rw [if_neg (by decide)]
  refine wpAny_bind (wpAny_bind ?_)
  have tail : ∀ (dx : Addr) (hh : Heap) (tk : Nat) (mA : Str → Option Value), hh.Ns1 dx mA → PySem.Within mA ns → (∀ h' tk', h'.Ns1 dx (upd mA name v) → Heap.SameBut dx hh h' → Q () { s with heap := h', toks := tk' }) →
      wpAny (model pr w) A.in1 (Builtin.ObjectAttr.storeInDict dx (.str name s.toks) name v) (fun fin s' => ∃ v, fin = .done (.ret v) ∧ wpAny (model pr w) A (pure PUnit.unit) Q E s') E { s with heap := hh, toks := tk } := by
    intro dx hh tk mA hns hw hq
    unfold Builtin.ObjectAttr.storeInDict Builtin.ObjectAttr.newKeyGuard
    refine wpAny_bind (wpAny_pure (wpAny_bind (wpAny_nsSet1 hns fun h' hn' hs => ?_)))
    obtain ⟨oD, esD, epD, hoD, hdD, hcD⟩ := hn'.count (Within.cons name v hw)
    refine wpAny_bind (wpAny_lookBehind hoD (by rw [hdD]; exact pastItsLine_dict (Nat.le_trans hcD (by rw [List.length_cons, sizeLine_eq]; omega))) ?_)
    exact wpAny_pure ⟨_, rfl, wpAny_pure (hq h' _ hn' hs)⟩
  rcases i with ⟨fd, e, rfl, hm⟩ | ⟨fd, dx, e, rfl, hn⟩
  · refine wpAny_loadPart e ?_
    dsimp only
    rw [if_neg (by decide +kernel)]
    have hx₁ : (s.heap.push { cls := .type "dict", data := .dict #[] }).get? f = some (fnObj none fd) := Heap.get?_push_of_some _ e
    have hxs : f ≠ s.heap.objs.size := Nat.ne_of_lt (Heap.lt_size e)
    refine wpAny_bind (wpAny_alloc ?_)
    refine wpAny_bind (wpAny_update hx₁ ?_)
    rw [made_fn]
    refine wpAny_pure ?_
    have hgd : ((s.heap.push { cls := .type "dict", data := .dict #[] }).update f fun o => { o with dict := some s.heap.objs.size }).get? s.heap.objs.size = some { cls := .type "dict", data := .dict #[] } :=
      (Heap.get?_update_ne _ _ _ _ hxs.symm).trans (Heap.get?_push_at rfl rfl)
    have hnd : ((s.heap.push { cls := .type "dict", data := .dict #[] }).update f fun o => { o with dict := some s.heap.objs.size }).Ns s.heap.objs.size (fun _ => none) :=
      ⟨_, #[], _, hgd, rfl, fun e he => absurd he (by simp), fun _ => rfl⟩
    have hf1 : ((s.heap.push { cls := .type "dict", data := .dict #[] }).update f fun o => { o with dict := some s.heap.objs.size }).get? f = some (fnObj (some s.heap.objs.size) fd) := Heap.get?_update_self _ hx₁ rfl
    obtain rfl : mA = fun _ => none := funext hm
    refine tail s.heap.objs.size _ (s.toks + 1) _ (Heap.Ns1.of_empty hnd) hw fun h' tk' hn' hs => h h' tk' s.heap.objs.size (.inr ⟨fd, _, (hs.2 f hxs).trans hf1, rfl, hn'⟩) (.inr rfl) fun b o n e => ?_
    exact (hs.2 b fun q => n (by rw [q]; simp)).trans ((Heap.get?_update_ne _ _ _ _ (fun q => n (by rw [q]; simp))).trans (Heap.get?_push_of_some _ e))
  · refine wpAny_loadPart e ?_
    dsimp only
    refine wpAny_pure ?_
    have hne : f ≠ dx := by
      rintro rfl
      obtain ⟨o, es, ep, e1, e2, _⟩ := hn
      rw [e] at e1; cases e1; cases e2
    refine tail dx s.heap (s.toks + 1) mA hn hw fun h' tk' hn' hs => h h' tk' dx (.inr ⟨fd, dx, (hs.2 f hne).trans e, rfl, hn'⟩) (.inl rfl) fun b o n e => (hs.2 b fun q => n (by rw [q]; simp)).trans e
end
end Mine
set_option maxHeartbeats 2000000
namespace Mine
theorem slot_fn_ga : Slot "function" "__getattribute__" "object.__getattribute__" :=
  .of (owner := "object") (n := "__getattribute__") (by rw [typeLookup_type, builtinLookup_eq_fast]; kernel_rfl) (by decide +kernel) (by decide +kernel) (by decide +kernel)
    (by first | exact .inl (by decide +kernel) | exact .inr (by decide +kernel)) (by rw [isSubtype_type]; kernel_rfl)
theorem entry_has : entryFor table "hasattr" = some Builtin.«hasattr» := entryFor_of_tree (by kernel_rfl)
theorem kind_has : builtinKind "hasattr" = none := by decide +kernel
theorem plain_has : plainId "hasattr" = true := by decide +kernel
theorem args_has (a b : Value) : argsOk "hasattr" ⟨[a, b], []⟩ := by unfold argsOk; kernel_rfl
theorem look_str1 : typeLookup (.type "str") "handler_order" = pure none := by rw [typeLookup_type, builtinLookup_eq_fast]; kernel_rfl
section
variable {w : World} {A : Around} {E : Value → Shared → Prop} {s : Shared}
theorem getF_by {f : Addr} {ds : List Addr} {name : Str} {t : Tok} {v : Value} {mA : Str → Option Value} {fill expr : Bool} {Q : Value → Shared → Prop} (i : IsF s.heap f ds mA) (hm : mA name = some v) (hv : handedIn v = true) (hl : typeLookup (.type "function") name = pure none) (h : Q v s) :
    wpAny (model pr w) A (getAttrBy (.ref f) (.str name t) fill expr) Q E s := by
  rcases i with ⟨fd, e, rfl, hn⟩ | ⟨fd, dx, e, rfl, hn⟩
  · rw [hn name] at hm; cases hm
  have ty : s.TypeIs (.ref f) "function" := ⟨_, e, rfl⟩
  unfold getAttrBy
  refine wpAny_holding (wpAny_bind (wpAny_typeOf ty ?_))
  rw [slot_fn_ga.lookup]
  refine wpAny_bind (wpAny_pure ?_)
  dsimp only
  rw [if_neg (by simp [onTheHeap])]
  unfold getAttrByItsOwn
  refine wpAny_bind (wpAny_pure ?_)
  refine wpAny_bind (wpAny_attempt (wpAny_holding ?_))
  unfold callGetattribute
  rw [if_neg (by simp [onTheHeap])]
  unfold boundAndCalled
  rw [slot_fn_ga.bind]
  refine wpAny_bind (wpAny_pure ?_)
  refine wpAny_call_entry slot_fn_ga ty F.entry_object_getattribute ?_ (F.args_object_getattribute_2 _ _)
  unfold Builtin.«object.__getattribute__»
  refine wpAny_bind (wpAny_pure (wpAny_bind (wpAny_pure (wpAny_bind (wpAny_typeOf ty ?_)))))
  unfold Builtin.ObjectAttr.find
  rw [hl]
  refine wpAny_bind (wpAny_bind (wpAny_pure (wpAny_bind (wpAny_pure (wpAny_bind (wpAny_pure ?_))))))
  show wpAny _ _ (Builtin.ObjectAttr.ownThenClass (.ref f) name none none) _ _ _
  unfold Builtin.ObjectAttr.ownThenClass Builtin.ObjectAttr.inOwnDict
  refine wpAny_bind (wpAny_bind ?_)
  unfold Builtin.ObjectAttr.ownDict loadHead
  refine wpAny_bind (wpAny_loadPart e ?_)
  dsimp only
  unfold instanceDict
  refine wpAny_bind (wpAny_loadPart e ?_)
  dsimp only
  refine wpAny_pure ?_
  show wpAny _ _ (nsGet dx name) _ _ _
  refine wpAny_nsGet hn.ns ?_
  rw [hm]
  dsimp only
  refine wpAny_bind (wpAny_rule ?_)
  refine wpAny_pure ?_
  dsimp only
  refine wpAny_pure ⟨v, rfl, ?_⟩
  show wpAny _ _ (handedOut v) _ _ _
  rw [handedOut_of hv]
  exact wpAny_pure h
theorem getF {f : Addr} {ds : List Addr} {name : Str} {v : Value} {mA : Str → Option Value} {expr : Bool} {Q : Value → Shared → Prop} (i : IsF s.heap f ds mA) (hm : mA name = some v) (hv : handedIn v = true) (hl : typeLookup (.type "function") name = pure none) (h : ∀ tk, Q v { s with toks := tk }) :
    wpAny (model pr w) A (getAttr (.ref f) name expr) Q E s := wpAny_bind (wpAny_mkText (getF_by (s := { s with toks := s.toks + 1 }) i hm hv hl (h _)))
theorem getH_by {N : Nat} {x : Addr} {o p : Value} {t : Tok} {fill expr : Bool} {Q : Value → Shared → Prop} (T : Tp w s.heap) (i : IsH N s.heap x o p) (hv : handedIn o = true) (h : Q o s) :
    wpAny (model pr w) A (getAttrBy (.ref x) (.str "handler_order" t) fill expr) Q E s := by
  obtain ⟨dx, es, n, _, _, h3, h4, h5, _⟩ := i
  obtain ⟨a, ha, hn⟩ := k_find1 w
  have I : InstAt s.heap x (instObj 73 dx) 73 (some (dictOf es n)) := ⟨h3, rfl, rfl, h4⟩
  have L0 := I.type (M := model pr w)
  have L1 := looks_findIn (M := model pr w) T.K (plainGet_of (k_get w (Str.ofString "handler_order"))).1
  have L2 := looks_find (M := model pr w) T.K I (findObj_own (k_has w) ha hn h5)
  obtain ⟨hh', g, d, tk, os⟩ := s
  unfold getAttrBy
  refine wpAny_holding (wpAny_bind (L0.at (wpAny_bind (L1.at ?_))))
  show wpAny _ _ (getAttrEveryday _ _ _) _ _ _
  refine wpAny_bind (wpAny_onRaise (wpAny_runValue (codeAny_builtin F.plainObj_entry_getattr_hooked ?_)))
  refine wpAny_bind (wpAny_pure (wpAny_bind (L0.at (wpAny_bind (L2.at ?_)))))
  refine wpAny_pure ?_
  show wpAny _ _ (handedOut o) _ _ _
  rw [handedOut_of hv]; exact wpAny_pure h
theorem has_F {f : Addr} {ds : List Addr} {t : Tok} {v : Value} {mA : Str → Option Value} {Q : Value → Shared → Prop} (i : IsF s.heap f ds mA) (hm : mA "handler_order" = some v) (hv : handedIn v = true) (h : Q (.bool true) s) :
    wpAny (model pr w) A (call (.builtin "hasattr") [.ref f, .str "handler_order" t]) Q E s := by
  have ty : s.TypeIs (.ref f) "function" := by rcases i with ⟨fd, e, _⟩ | ⟨fd, dx, e, _⟩ <;> exact ⟨_, e, rfl⟩
  refine Calls.call_function_entry kind_has plain_has entry_has (args_has _ _) ?_
  unfold Builtin.«hasattr»
  refine wpAny_bind (wpAny_pure (wpAny_bind (wpAny_pure ?_)))
  rw [if_neg (show ¬ ((Value.ref f == Value.builtin "__main__.__loader__#opaque") = true) from by simp)]
  refine wpAny_bind (wpAny_typeOf ty ?_)
  dsimp only
  refine wpAny_bind (wpAny_pure ?_)
  dsimp only
  rw [look_fn1]
  refine wpAny_bind (wpAny_pure ?_)
  dsimp only
  refine wpAny_bind ?_
  refine wpAny_bind (wpAny_pure ?_)
  refine wpAny_bind (wpAny_isInstance (T := "function") (b := false) ty (by rw [isSubtype_type]; kernel_rfl) ?_)
  refine wpAny_pure ?_
  rw [if_neg (by decide)]
  unfold getAttrBy?
  refine wpAny_bind (wpAny_bind (wpAny_attempt (getF_by i hm hv look_fn1 (wpAny_pure ?_))))
  exact wpAny_pure ⟨_, rfl, h⟩
theorem k_type73 (w : World) : typeIn (KF w) (.ref 73) = some (.type "type") := by kernel_rfl
theorem k_sub (w : World) : subIn (KF w) (.ref 73) (.type "module") = some false := by kernel_rfl
theorem has_H {N : Nat} {x : Addr} {o p : Value} {t : Tok} {Q : Value → Shared → Prop} (T : Tp w s.heap) (i : IsH N s.heap x o p) (hv : handedIn o = true) (h : Q (.bool true) s) :
    wpAny (model pr w) A (call (.builtin "hasattr") [.ref x, .str "handler_order" t]) Q E s := by
  have i' := i
  obtain ⟨dx, es, n, _, _, h3, h4, h5, _⟩ := i
  have I : InstAt s.heap x (instObj 73 dx) 73 (some (dictOf es n)) := ⟨h3, rfl, rfl, h4⟩
  have L0 := I.type (M := model pr w)
  refine Calls.call_function_entry kind_has plain_has entry_has (args_has _ _) ?_
  unfold Builtin.«hasattr»
  refine wpAny_bind (wpAny_pure (wpAny_bind (wpAny_pure ?_)))
  rw [if_neg (show ¬ ((Value.ref x == Value.builtin "__main__.__loader__#opaque") = true) from by simp)]
  refine wpAny_bind (L0.here ?_)
  refine wpAny_bind ?_
  refine wpAny_bind (wpAny_pure ?_)
  have L1 : Looks (model pr w) s.heap (isInstance (.ref x) (.type "module")) false := L0.andThen (looks_subIn T.K (k_sub w))
  refine wpAny_bind (L1.here ?_)
  refine wpAny_pure ?_
  rw [if_neg (by decide)]
  unfold getAttrBy?
  refine wpAny_bind (wpAny_bind (wpAny_attempt (getH_by T i' hv (wpAny_pure ?_))))
  exact wpAny_pure ⟨_, rfl, h⟩
theorem by_str {x : Str} {t u : Tok} {name : Str} {Q : Option Value → Shared → Prop} (hA : A.handled = none) (hl : typeLookup (.type "str") name = pure none) (hsz : name.length + 100 ≤ sizeLine)
    (h : ∀ h' tk, Kp [] s.heap h' → Q none { s with heap := h', toks := tk }) : wpAny (model pr w) A (getAttrBy? (.str x t) (.str name u)) Q E s := by
  obtain ⟨hp, g, d, tk, os⟩ := s
  have hT : ∀ s' : Shared, s'.TypeIs (.str x t) "str" := fun _ => rfl
  have f1 := sub_AttributeError
  have f3 := F.slot_str_getattribute.lookup
  have f4 := F.slot_str_getattribute.bind (.str x t)
  have f5 := am_str_getattr_none
  unfold getAttrBy? getAttrBy
  repeat (any_goals (first | assumption | ((with_reducible show wpAny _ _ (call (Value.builtin "object.__getattribute__") _ _) _ _ _); refine call_meets F.slot_str_getattribute (hT _) F.entry_object_getattribute (F.args_object_getattribute_2 _ _) (meets_getattribute_miss_str x t name _ hl hsz) ⟨hA, fun h' tk' e hx => ?_⟩) | wp_step))
  obtain ⟨t', u', he⟩ := hx.there
  show wpAny _ _ (getattributeRaised _ _ _ _ _ _ _) _ _ _
  unfold getattributeRaised
  repeat (any_goals (first | assumption | wp_step))
  exact h _ _ fun b o _ e => hx.1 b o e
theorem has_str {x : Str} {t u : Tok} {Q : Value → Shared → Prop} (hA : A.handled = none)
    (h : ∀ h' tk, Kp [] s.heap h' → Q (.bool false) { s with heap := h', toks := tk }) : wpAny (model pr w) A (call (.builtin "hasattr") [.str x t, .str "handler_order" u]) Q E s := by
  refine Calls.call_function_entry kind_has plain_has entry_has (args_has _ _) ?_
  unfold Builtin.«hasattr»
  refine wpAny_bind (wpAny_pure (wpAny_bind (wpAny_pure ?_)))
  rw [if_neg (show ¬ ((Value.str x t == Value.builtin "__main__.__loader__#opaque") = true) from by simp)]
  refine wpAny_bind (wpAny_pure ?_)
  dsimp only
  refine wpAny_bind (wpAny_pure ?_)
  dsimp only
  rw [look_str1]
  refine wpAny_bind (wpAny_pure ?_)
  dsimp only
  refine wpAny_bind (wpAny_pure ?_)
  rw [if_neg (by decide)]
  refine wpAny_bind (by_str hA look_str1 (by decide) fun h' tk k => ?_)
  exact wpAny_pure ⟨_, rfl, h h' tk k⟩
end
end Mine
set_option maxHeartbeats 2000000
namespace Mine
local macro_rules | `(tactic| ktr_rel) => `(tactic| first | assumption | exact upd_eq | (refine upd_ne ?_ (by decide); ktr_rel))
section
variable {w : World} {A : Around} {E : Value → Shared → Prop} {s : Shared} {env : Env}
theorem Attr_ {value : Expr} {attr : Str} {pos : Pos} {Q : Value → Shared → Prop} (h : wpAny (model pr w) A (eval value env) (fun o s₁ => wpAny (model pr w) A (getAttr o attr true) Q E s₁) E s)
    (hb : attributeBase value attr env (eval value env) = eval value env := by rfl) (ht : ∀ o r, letTemporaryGo value o r = pure () := by intro _ _; rfl) : wpAny (model pr w) A (eval (.Attribute value attr pos) env) Q E s := by
  rw [arm_eval_Attribute, hb]
  refine wpAny_bind (wpAny_mono h (fun o s₁ h₁ => wpAny_bind (wpAny_standAt (wpAny_bind (wpAny_holding (wpAny_mono h₁ (fun r s₂ h₂ => ?_) fun _ _ e => e))))) fun _ _ e => e)
  rw [ht]
  exact wpAny_bind (wpAny_pure (wpAny_pure h₂))
/-- what may stand right of <: a handler, a bearer, an outsider -/
inductive Oth (h : Heap) : Value → Option Str → Prop
  | hdl {N x y t p} : IsH N h x (.str y t) p → Oth h (.ref x) (some y)
  | fn {f ds m y t} : IsF h f ds m → m "handler_order" = some (.str y t) → Oth h (.ref f) (some y)
  | str {y t} : Oth h (.str y t) none
def ltv (a : Str) : Option Str → Bool
  | some b => decide (a.cps.toList < b.cps.toList)
  | none => true
theorem IsF.kp0 {h h' : Heap} {f : Addr} {ds : List Addr} {m : Str → Option Value} (i : IsF h f ds m) (k : Kp [] h h') : IsF h' f ds m := by
  rcases i with ⟨fd, e, r⟩ | ⟨fd, dx, e, r, n⟩
  · exact .inl ⟨fd, k.all _ _ e, r⟩
  · exact .inr ⟨fd, dx, k.all _ _ e, r, n.at fun o e => k.all _ _ e⟩
theorem Oth.kp {h h' : Heap} {v : Value} {y : Option Str} (o : Oth h v y) (k : Kp [] h h') : Oth h' v y := by
  cases o with
  | hdl i => exact .hdl (i.kp k (fun _ q => nomatch q))
  | fn i e => exact .fn (i.kp0 k) e
  | str => exact .str
theorem lt_ok {N : Nat} {x : Addr} {a : Str} {t : Tok} {p other : Value} {b : Option Str} {Q : Value → Shared → Prop} (T : Tp w s.heap) (k : Ok A 1) (hx : IsH N s.heap x (.str a t) p) (ho : Oth s.heap other b)
    (hQ : ∀ h' tk, Kp [] s.heap h' → Q (.bool (ltv a b)) { s with heap := h', toks := tk }) : wpAny (model pr w) A (call (.ref 70) [.ref x, other]) Q E s := by
  refine wpAny_call (enter (a := 70) (binds := [("self", .ref x), ("other", other)]) T k rfl rfl (by kernel_rfl) rfl rfl rfl rfl (by decide) ?_)
  intro h₁ tk A' E' k' env B
  obtain ⟨cm, B⟩ : ∃ cm, Bd [] s.heap env _ cm h₁ := ⟨_, B⟩
  have tpB : ∀ {m : Str → Option Value} {h : Heap}, Bd [] s.heap env m cm h → Tp w h := fun B => T.kp B.keep Far.nil
  have hL := B.low T
  have hx' := hx.kp B.keep (fun _ q => nomatch q)
  have ho' := ho.kp B.keep
  refine wpAny_execs_cons (wpAny_If (wpAny_isTrue_Not (wpAny_isTrue_value (Bi_ (tpB B) (gn_hasattr w) bb_hasattr (wpAny_items_cons (ldL B.ns (by ktr_rel) (wpAny_items_cons (wpAny_Constant_str (wpAny_items_nil ?_)))))))))
  cases ho' with
  | hdl i =>
    refine has_H (tpB B) i rfl (wpAny_truthy_bool ?_)
    rw [if_neg (by decide)]
    refine wpAny_execs_nil (wpAny_execs_cons (wpAny_Return_some (wpAny_Compare1 (Attr_ (ldL B.ns (by ktr_rel) (getH1 B.ns (tpB B) hL hx' rfl (Attr_ (ldL B.ns (by ktr_rel) (getH1 B.ns (tpB B) hL i rfl (P.lt_str ?_))))))))))
    exact hQ _ _ B.keep
  | fn i e =>
    refine has_F i e rfl (wpAny_truthy_bool ?_)
    rw [if_neg (by decide)]
    refine wpAny_execs_nil (wpAny_execs_cons (wpAny_Return_some (wpAny_Compare1 (Attr_ (ldL B.ns (by ktr_rel) (getH1 B.ns (tpB B) hL hx' rfl (Attr_ (ldL B.ns (by ktr_rel) (getF i e rfl look_fn1 fun tk => P.lt_str ?_)))))))))
    exact hQ _ _ B.keep
  | str =>
    refine has_str k'.hd fun h₂ tk₂ k₂ => wpAny_truthy_bool ?_
    rw [if_pos (by decide)]
    refine wpAny_execs_cons (wpAny_Return_some (wpAny_Constant_bool ?_))
    exact hQ _ _ (B.keep.trans k₂)
end
end Mine
set_option maxHeartbeats 2000000
namespace Mine
inductive Sub1Ok (Q : Value → Shared → Prop) (o i : Value) (s₂ : Shared) : Prop
  | mk (l : Addr) (its : Array Value) (k : Int) (t : Tok) (e1 : o = .ref l) (e2 : i = .int k t) (hl : s₂.heap.IsList l its) (h1 : -(its.size : Int) ≤ k) (h2 : k < its.size) (h3 : its.size ≤ sizeLine)
    (q : ∀ x, its[(if k < 0 then k + its.size else k).toNat]? = some x → Q x s₂) : Sub1Ok Q o i s₂
inductive SubSOk (Q : Value → Shared → Prop) (o i : Value) (s₂ : Shared) : Prop
  | mk (x : Str) (t : Tok) (k : Int) (u : Tok) (e1 : o = .str x t) (e2 : i = .int k u) (h1 : -(x.length : Int) ≤ k) (h2 : k < x.length) (h3 : x.length ≤ sizeLine)
    (q : ∀ c t' tk, x.cps[(if k < 0 then k + x.length else k).toNat]? = some c → Q (.str ⟨#[c]⟩ t') { s₂ with toks := tk }) : SubSOk Q o i s₂
inductive SlLOk (Q : Value → Shared → Prop) (o vl vu : Value) (s₃ : Shared) : Prop
  | mk (l : Addr) (its : Array Value) (lo hi : Option Int) (e1 : o = .ref l) (hl : s₃.heap.IsList l its) (sz : its.size ≤ sizeLine) (p1 : IsPart vl lo) (p2 : IsPart vu hi)
    (q : ∀ h', Kp [] s₃.heap h' → h'.PlainList (s₃.heap.objs.size + 1) (slicePick its lo hi none) → Q (.ref (s₃.heap.objs.size + 1)) { s₃ with heap := h' }) : SlLOk Q o vl vu s₃
section
variable {w : World} {A : Around} {E : Value → Shared → Prop} {s : Shared} {env : Env}
theorem Sub_ {value slice : Expr} {pos : Pos} {T id : String} {Q : Value → Shared → Prop} (hl : typeLookup (.type T) "__getitem__" = pure (some (.builtin id)))
    (h : wpAny (model pr w) A (eval value env) (fun o s₁ => wpAny (model pr w) A (eval slice env) (fun i s₂ => s₂.TypeIs o T ∧ wpAny (model pr w) A (getItem o i) Q E s₂) E s₁) E s)
    (hs : ∀ o i, ∃ ops, subscripted slice false o i = operate ops (getItem o i) := by intro _ _; exact ⟨_, rfl⟩) :
    wpAny (model pr w) A (eval (.Subscript value slice pos) env) Q E s := by
  rw [eval_Subscript]
  refine wpAny_bind (wpAny_mono h (fun o s₁ h₁ => wpAny_bind (wpAny_holding (wpAny_mono h₁ (fun i s₂ h₂ => wpAny_bind (wpAny_standAt ?_)) fun _ _ x => x))) fun _ _ x => x)
  refine wpAny_bind ?_
  rw [getitemInPython_of_ne h₂.1.not_modules]
  refine wpAny_bind (wpAny_specialOf h₂.1 hl ?_)
  obtain ⟨ops, e⟩ := hs o i
  have fin : wpAny (model pr w) A (subscripted slice false o i) (fun r s₃ => wpAny (model pr w) A (letTemporaryGo value o r >>= fun _ => pure r) Q E s₃) E s₂ := by
    rw [e]
    exact wpAny_operating (wpAny_mono h₂.2 (fun r s₃ h₃ => wpAny_bind (wpAny_letTemporaryGo (wpAny_pure h₃))) fun _ _ x => x)
  first
    | exact wpAny_pure (wpAny_bind fin)
    | exact wpAny_bind (wpAny_pure (wpAny_bind fin))
    | exact wpAny_bind fin
theorem Sub1_ {value slice : Expr} {pos : Pos} {Q : Value → Shared → Prop}
    (h : wpAny (model pr w) A (eval value env) (fun o s₁ => wpAny (model pr w) A (eval slice env) (fun i s₂ => Sub1Ok Q o i s₂) E s₁) E s)
    (hs : ∀ o i, ∃ ops, subscripted slice false o i = operate ops (getItem o i) := by intro _ _; exact ⟨_, rfl⟩) :
    wpAny (model pr w) A (eval (.Subscript value slice pos) env) Q E s := by
  refine Sub_ (T := "list") list_getitem_lookup (wpAny_mono h (fun o s₁ h₁ => wpAny_mono h₁ (fun i s₂ h₂ => ?_) fun _ _ e => e) fun _ _ e => e) hs
  obtain ⟨l, its, k, t, rfl, rfl, hl, h1, h2, h3, hq⟩ := h₂
  refine ⟨hl.typeIs, ?_⟩
  rw [sizeLine_eq] at h3
  by_cases hk : k < 0
  · rw [if_pos hk] at hq
    have : (k + its.size).toNat < its.size := by lia
    exact wpAny_getItem_list_neg hl hk h1 (by lia) (Array.getElem?_eq_getElem this) (hq _ (Array.getElem?_eq_getElem this))
  · rw [if_neg hk] at hq
    have : k.toNat < its.size := by lia
    exact wpAny_getItem_list hl (by lia) (by lia) (Array.getElem?_eq_getElem this) (hq _ (Array.getElem?_eq_getElem this))
theorem SubS_ {value slice : Expr} {pos : Pos} {Q : Value → Shared → Prop}
    (h : wpAny (model pr w) A (eval value env) (fun o s₁ => wpAny (model pr w) A (eval slice env) (fun i s₂ => SubSOk Q o i s₂) E s₁) E s)
    (hs : ∀ o i, ∃ ops, subscripted slice false o i = operate ops (getItem o i) := by intro _ _; exact ⟨_, rfl⟩) :
    wpAny (model pr w) A (eval (.Subscript value slice pos) env) Q E s := by
  refine Sub_ (T := "str") F.slot_str_getitem.lookup (wpAny_mono h (fun o s₁ h₁ => wpAny_mono h₁ (fun i s₂ h₂ => ?_) fun _ _ e => e) fun _ _ e => e) hs
  obtain ⟨x, t, k, u, rfl, rfl, h1, h2, h3, hq⟩ := h₂
  refine ⟨typeIs_str _ x t, ?_⟩
  rw [sizeLine_eq] at h3
  have hlt : (if k < 0 then k + x.length else k).toNat < x.cps.size := by
    have e : x.length = x.cps.size := rfl
    split <;> lia
  refine P.getItem_str (c := x.cps[(if k < 0 then k + x.length else k).toNat]) (by simp; lia) ?_ (hq _ _ _ (Array.getElem?_eq_getElem hlt))
  unfold seqIndex?
  dsimp only
  rw [if_pos (by simp; split <;> lia)]
  exact Array.getElem?_eq_getElem hlt
theorem SlS_ {value : Expr} {lower upper : Option Expr} {p pos : Pos} {Q : Value → Shared → Prop}
    (h : wpAny (model pr w) A (eval value env) (fun o s₁ => wpAny (model pr w) A (evalPart lower env) (fun vl s₂ => wpAny (model pr w) A (evalPart upper env) (fun vu s₃ =>
      SlSOk Q o vl vu s₃) E s₂) E s₁) E s) :
    wpAny (model pr w) A (eval (.Subscript value (.Slice lower upper none p) pos) env) Q E s := by
  refine Sub_ (T := "str") F.slot_str_getitem.lookup (wpAny_mono h (fun o s₁ h₁ => wpAny_Slice (wpAny_mono h₁ (fun vl s₂ h₂ => wpAny_mono h₂ (fun vu s₃ h₃ => ?_) fun _ _ e => e) fun _ _ e => e)) fun _ _ e => e)
  obtain ⟨x, t, l, u, rfl, rfl, rfl, hsz, hQ⟩ := h₃
  rw [evalPart_none]
  exact wpAny_pure ⟨typeIs_str _ x t, wpAny_getItem_str_slice (l := l) (u := u) (st := none) ⟨_, Heap.get?_push_size _ rfl, rfl, rfl⟩ rfl (post_val_or_str ⟨Nat.le_trans (Txt.slice_le x _ _) hsz, fun t' k => hQ _ t' k (Kp.push _ _ _)⟩)⟩
theorem SlL_ {value : Expr} {lower upper : Option Expr} {p pos : Pos} {Q : Value → Shared → Prop}
    (h : wpAny (model pr w) A (eval value env) (fun o s₁ => wpAny (model pr w) A (evalPart lower env) (fun vl s₂ => wpAny (model pr w) A (evalPart upper env) (fun vu s₃ =>
      SlLOk Q o vl vu s₃) E s₂) E s₁) E s) :
    wpAny (model pr w) A (eval (.Subscript value (.Slice lower upper none p) pos) env) Q E s := by
  refine Sub_ (T := "list") list_getitem_lookup (wpAny_mono h (fun o s₁ h₁ => wpAny_Slice (wpAny_mono h₁ (fun vl s₂ h₂ => wpAny_mono h₂ (fun vu s₃ h₃ => ?_) fun _ _ e => e) fun _ _ e => e)) fun _ _ e => e)
  obtain ⟨l, its, lo, hi, rfl, hl, hsz, pl, pu, hQ⟩ := h₃
  rw [evalPart_none]
  refine wpAny_pure ⟨(hl.push _).typeIs, wpAny_getItem_list_slice (hl.push _) (Heap.IsSliceOf.new ..) pl pu .none (by simp) ?_ hsz⟩
  rw [Heap.size_push]
  refine hQ _ (fun b o _ e => Heap.get?_push_of_some _ (Heap.get?_push_of_some _ e)) ⟨0, ?_⟩
  have := Heap.get?_push_size (s₃.heap.push { cls := .type "slice", data := .fields #[vl, vu, .none] }) (o := { cls := .type "list", data := .seq (slicePick its lo hi none) }) rfl
  rw [Heap.size_push] at this
  exact this
theorem AttrT_ {value : Expr} {attr : Str} {pos : Pos} {Q : Value → Shared → Prop} (h : wpAny (model pr w) A (eval value env) (fun o s₁ => wpAny (model pr w) A (getAttr o attr true) Q E s₁) E s)
    (hb : attributeBase value attr env (eval value env) = eval value env := by rfl) : wpAny (model pr w) A (eval (.Attribute value attr pos) env) Q E s := by
  rw [arm_eval_Attribute, hb]
  exact wpAny_bind (wpAny_mono h (fun o s₁ h₁ => wpAny_bind (wpAny_standAt (wpAny_bind (wpAny_holding (wpAny_mono h₁ (fun r s₂ h₂ => wpAny_bind (wpAny_letTemporaryGo (wpAny_pure h₂))) fun _ _ e => e))))) fun _ _ e => e)
theorem addL {a b : Addr} {xs ys : Array Value} {Q : Value → Shared → Prop} (ha : s.heap.PlainList a xs) (hb : s.heap.PlainList b ys) (hsz : xs.size + ys.size ≤ sizeLine)
    (h : ∀ h', Kp [] s.heap h' → h'.PlainList s.heap.objs.size (xs ++ ys) → Q (.ref s.heap.objs.size) { s with heap := h' }) : wpAny (model pr w) A (binaryOp .Add (.ref a) (.ref b)) Q E s := by
  obtain ⟨n, ha⟩ := ha
  obtain ⟨m, hb⟩ := hb
  exact P.add_list (n := n) (n2 := m) ha hb (h _ (Kp.push _ _ _) ⟨_, Heap.get?_push_size _ rfl⟩) hsz
theorem iterR {N M : Nat} {r : Addr} {t u v : Tok} {Q : Value → Shared → Prop} (hr : IsRange s.heap r (N : Int) (M : Int) 1 t u v) (hN : N ≤ 1000) (hM : M ≤ 1000)
    (h : ∀ h' St, (∀ A' : Around, A'.handled = none → Walks pr w A' s.heap.objs.size [s.heap.objs.size] [s.heap.objs.size] (M - N) (fun i v => ∃ t, v = .int ((N + i : Nat) : Int) t) St) → St 0 h' → Kp [] s.heap h' → h'.objs.size = s.heap.objs.size + 1 → (∀ i h, St i h → s.heap.objs.size < h.objs.size) →
      Q (.ref s.heap.objs.size) { s with heap := h' }) : wpAny (model pr w) A (pyIter (.ref r)) Q E s := by
  refine wpAny_pyIter_range hr (small_one (by lia) (by lia) (by lia) (by lia)) ?_
  have hsz : Builtin.Range.rangeSize (N : Int) (M : Int) 1 = ((M - N : Nat) : Int) := by rw [rangeSize_one]; split <;> lia
  refine h _ (fun i h => IsRangeIter h s.heap.objs.size ((N : Int) + (i : Nat) * 1) (((M - N : Nat) : Int) - (i : Nat)) 1) (fun A' hA => ?_) ?_ (Kp.push _ _ _) (Heap.size_push _ _) (fun i h e => Heap.lt_size (show h.get? _ = some _ from e))
  · have W := Walks.range (prog := pr) (w := w) hA s.heap.objs.size (N : Int) 1 (M - N)
    have e : (fun (i : Nat) (v : Value) => ∃ t, v = Value.int ((N : Int) + (i : Int) * 1) t) = fun (i : Nat) (v : Value) => ∃ t, v = Value.int ((N + i : Nat) : Int) t := by
      funext i v; simp
    rw [e] at W
    exact W
  · show IsRangeIter _ _ _ _ _
    have e1 : ((N : Int) + ((0 : Nat) : Int) * 1) = N := by simp
    have e2 : (((M - N : Nat) : Int) - ((0 : Nat) : Int)) = Builtin.Range.rangeSize (N : Int) (M : Int) 1 := by rw [hsz]; simp
    rw [e1, e2]
    exact Heap.get?_push_size _ rfl
theorem Ty_ {x : Str} {id : String} {px pos : Pos} {e : Expr} {rest : List Expr} {Q : Value → Shared → Prop} (T : Tp w s.heap) (gl : nsIn (KF w) mainGlobals x = some none) (hv : bootBuiltins x = some (.type id))
    (h : wpAny (model pr w) A (spliced (backTo pos (starEach (e :: rest) env))) (fun vs s₁ => wpAny (model pr w) A (call (.type id) vs) Q E s₁) E s)
    (he : starEach (e :: rest) env = (false, eval e env) :: starEach rest env := by rfl) (hplain : (backTo pos (starEach rest env)).any (·.1) = false := by rfl)
    (hc : eval (.Call (.Name x px) (e :: rest) [] pos) env = (do callWith pos (← eval (.Name x px) env) [] (backTo pos (starEach (e :: rest) env)) (backToKw pos (keywordEach [] env))) := by rfl)
    (hn : x ≠ "__name__" := by decide) (hg : env.globals = mainGlobals := by rfl) (hb : env.builtins = builtinsNs := by rfl) (hk2 : env.scope.kind = .function := by rfl) (hl : env.kindOf x = some .globalImplicit := by rfl) (hd : (x == ("__debug__" : Str)) = false := by rfl) :
    wpAny (model pr w) A (eval (.Call (.Name x px) (e :: rest) [] pos) env) Q E s :=
  Call_ (ldB T gl hv (PyProof.Rows.callWith_type1 h he hplain) hn hg hb hk2 hl hd) hc
theorem range1 {N : Nat} {t : Tok} {Q : Value → Shared → Prop} (h : ∀ h' r t0 u v, Kp [] s.heap h' → IsRange h' r ((0 : Nat) : Int) (N : Int) 1 t0 u v → ∀ tk, Q (.ref r) { s with heap := h', toks := tk }) : wpAny (model pr w) A (call (.type "range") [.int (N : Int) t]) Q E s := by
  refine call_range_1 ?_
  exact h _ _ _ _ _ (Kp.push _ _ _) (IsRange.new ..) _
theorem range2 {M N : Nat} {t u : Tok} {Q : Value → Shared → Prop} (h : ∀ h' r t0 u v, Kp [] s.heap h' → IsRange h' r (M : Int) (N : Int) 1 t0 u v → ∀ tk, Q (.ref r) { s with heap := h', toks := tk }) : wpAny (model pr w) A (call (.type "range") [.int (M : Int) t, .int (N : Int) u]) Q E s := by
  refine call_range_2 ?_
  exact h _ _ _ _ _ (Kp.push _ _ _) (IsRange.new ..) _
theorem cmpH {N : Nat} {x : Addr} {a : Str} {t : Tok} {p other : Value} {b : Option Str} {L : Addr} {m : Str → Option Value} {Q : Value → Shared → Prop} (ns : s.heap.Ns L m) (hL : 115 ≤ L) (T : Tp w s.heap) (k : Ok A 1) (hx : IsH N s.heap x (.str a t) p) (ho : Oth s.heap other b)
    (hQ : ∀ h' tk, Kp [] s.heap h' → Q (.bool (ltv a b)) { s with heap := h', toks := tk }) : wpAny (model pr w) A (compareOp .Lt (.ref x) other) Q E s := by
  have hx' := hx
  have ho' := ho
  obtain ⟨dx, es, n, _, _, h3, h4, h5, _⟩ := hx
  have I : InstAt s.heap x (instObj 73 dx) 73 (some (dictOf es n)) := ⟨h3, rfl, rfl, h4⟩
  have fin : wpAny (model pr w) A (call (.ref 70) [.ref x, other]) (PySem.W.CmpBack Q) E s := lt_ok T k hx' ho' fun h' tk kk => hQ h' tk kk
  refine cmp_ofLt ?_
  cases ho with
  | hdl i =>
    obtain ⟨dy, es', n', _, _, g3, g4, _⟩ := i
    exact cmp_K k.units (brFr ns) (preK T hL) I ((⟨g3, rfl, rfl, g4⟩ : InstAt s.heap _ (instObj 73 dy) 73 (some (dictOf es' n'))).type) (show notFirst (KF w) 73 (.ref 73) = true by kernel_rfl) (show findIn (KF w) (.ref 73) "__lt__" = some (some (.ref 70)) by kernel_rfl) (by kernel_rfl) fin
  | @fn f _ _ _ _ i e =>
    have lt : Looks (model pr w) s.heap (typeOf (.ref f)) (.type "function") := by
      rcases i with ⟨fd, e, _⟩ | ⟨fd, dx, e, _⟩ <;> exact (Looks.ld (part := none) e).andThen .now
    exact cmp_K k.units (brFr ns) (preK T hL) I lt (show notFirst (KF w) 73 (.type "function") = true by kernel_rfl) (show findIn (KF w) (.ref 73) "__lt__" = some (some (.ref 70)) by kernel_rfl) (by kernel_rfl) fin
  | str =>
    exact cmp_K k.units (brFr ns) (preK T hL) I (Looks.of_pure rfl) (show notFirst (KF w) 73 (.type "str") = true by kernel_rfl) (show findIn (KF w) (.ref 73) "__lt__" = some (some (.ref 70)) by kernel_rfl) (by kernel_rfl) fin
end
end Mine
set_option maxHeartbeats 2000000
namespace Mine
local macro_rules | `(tactic| ktr_rel) => `(tactic| first | assumption | exact upd_eq | (refine upd_ne ?_ (by decide); ktr_rel))
/-- a row: bearers with their signs and places, an outsider behind them -/
structure Bearer where
  sign : Str
  place : Nat
def putB (b : Bearer) : List Bearer → List Bearer
  | [] => [b]
  | e :: r => if b.sign.cps.toList < e.sign.cps.toList then b :: e :: r else e :: putB b r
def putAt (c : Str) : List Bearer → Nat
  | [] => 0
  | e :: r => if c.cps.toList < e.sign.cps.toList then 0 else putAt c r + 1
theorem putAt_le (c : Str) : ∀ bs, putAt c bs ≤ bs.length
  | [] => Nat.le_refl _
  | e :: r => by
    have := putAt_le c r
    unfold putAt
    split
    · exact Nat.zero_le _
    · simp; omega
inductive IsB (N : Nat) (h : Heap) (v : Value) (b : Bearer) : Prop
  | mk (f : Addr) (ds : List Addr) (m : Str → Option Value) (t u : Tok) (e : v = .ref f) (h1 : N ≤ f) (h2 : ∀ d ∈ ds, N ≤ d) (i : IsF h f ds m) (h3 : m "handler_order" = some (.str b.sign t)) (h4 : m "place" = some (.int (b.place : Int) u)) : IsB N h v b
theorem IsF.kp {h h' : Heap} {f : Addr} {ds : List Addr} {m : Str → Option Value} {X : List Addr} (i : IsF h f ds m) (k : Kp X h h') (n1 : f ∉ X) (n2 : ∀ d ∈ ds, d ∉ X) : IsF h' f ds m := by
  rcases i with ⟨fd, e, r⟩ | ⟨fd, dx, e, rfl, n⟩
  · exact .inl ⟨fd, k _ _ n1 e, r⟩
  · exact .inr ⟨fd, dx, k _ _ n1 e, rfl, n.at fun o e => k _ _ (n2 dx (.head _)) e⟩
theorem IsB.kp {N : Nat} {h h' : Heap} {v : Value} {b : Bearer} {X : List Addr} (i : IsB N h v b) (k : Kp X h h') (n : ∀ b ∈ X, b < N) : IsB N h' v b := by
  obtain ⟨f, ds, m, t, u, h1, h2, h3, h4, h5, h6⟩ := i
  exact ⟨f, ds, m, t, u, h1, h2, h3, h4.kp k (fun q => Nat.lt_irrefl _ (Nat.lt_of_lt_of_le (n _ q) h2)) (fun d hd q => Nat.lt_irrefl _ (Nat.lt_of_lt_of_le (n _ q) (h3 d hd))), h5, h6⟩
inductive Row (N : Nat) (h : Heap) : List Value → List Bearer → Prop
  | nil {x t} : Row N h [.str x t] []
  | cons {v vs b bs} : IsB N h v b → Row N h vs bs → Row N h (v :: vs) (b :: bs)
theorem Row.len {N : Nat} {h : Heap} {vs : List Value} {bs : List Bearer} (r : Row N h vs bs) : vs.length = bs.length + 1 := by
  induction r with
  | nil => rfl
  | cons _ _ ih => simp [ih]
theorem Row.kp {N : Nat} {h h' : Heap} {vs : List Value} {bs : List Bearer} {X : List Addr} (r : Row N h vs bs) (k : Kp X h h') (n : ∀ b ∈ X, b < N) : Row N h' vs bs := by
  induction r with
  | nil => exact .nil
  | cons i _ ih => exact .cons (i.kp k n) ih
theorem Row.put {N : Nat} {h : Heap} {vs : List Value} {bs : List Bearer} (r : Row N h vs bs) {v : Value} {b : Bearer} (i : IsB N h v b) : Row N h (vs.take (putAt b.sign bs) ++ v :: vs.drop (putAt b.sign bs)) (putB b bs) := by
  induction r with
  | nil => exact .cons i .nil
  | cons j r ih =>
    unfold putAt putB
    split
    · exact .cons i (.cons j r)
    · exact .cons j ih
theorem IsF.uniq {h : Heap} {f : Addr} {ds ds' : List Addr} {m m' : Str → Option Value} (i : IsF h f ds m) (j : IsF h f ds' m') : m = m' := by
  funext n
  rcases i with ⟨fd, e, _, hm⟩ | ⟨fd, dx, e, _, hm⟩ <;> rcases j with ⟨fd', e', _, hm'⟩ | ⟨fd', dx', e', _, hm'⟩
  · rw [hm, hm']
  · rw [e] at e'; cases e'
  · rw [e] at e'; cases e'
  · rw [e] at e'; cases e'
    obtain ⟨o, es, ep, e1, e2, _, _, e3⟩ := hm
    obtain ⟨o', es', ep', e1', e2', _, _, e3'⟩ := hm'
    rw [e1] at e1'; cases e1'
    rw [e2] at e2'; cases e2'
    rw [← e3, ← e3']
def KeyB (h : Heap) (v : Value) (b : Option Str) : Prop := (∃ f ds m y t, v = .ref f ∧ IsF h f ds m ∧ m "handler_order" = some (.str y t) ∧ b = some y) ∨ (∃ y t, v = .str y t ∧ b = none)
theorem KeyB.uniq {h : Heap} {v : Value} {b c : Option Str} (i : KeyB h v b) (j : KeyB h v c) : b = c := by
  rcases i with ⟨f, ds, m, y, t, rfl, i, e, rfl⟩ | ⟨y, t, rfl, rfl⟩ <;> rcases j with ⟨f', ds', m', y', t', e0, i', e', rfl⟩ | ⟨y', t', e0, rfl⟩
  · cases e0
    rw [IsF.uniq i i'] at e
    rw [e] at e'; cases e'; rfl
  · cases e0
  · cases e0
  · rfl
theorem KeyB.oth {h : Heap} {v : Value} {b : Option Str} (i : KeyB h v b) : Oth h v b := by
  rcases i with ⟨f, ds, m, y, t, rfl, i, e, rfl⟩ | ⟨y, t, rfl, rfl⟩
  · exact .fn i e
  · exact .str
def keysB (bs : List Bearer) : List (Option Str) := bs.map (fun b => some b.sign) ++ [none]
theorem Row.at {N : Nat} {h : Heap} {vs : List Value} {bs : List Bearer} (r : Row N h vs bs) : ∀ {i : Nat} {v : Value}, vs[i]? = some v → ∃ b, (keysB bs)[i]? = some b ∧ KeyB h v b := by
  induction r with
  | @nil x t =>
    intro i v e
    cases i with
    | zero => cases e; exact ⟨none, rfl, .inr ⟨x, t, rfl, rfl⟩⟩
    | succ i => simp at e
  | @cons v' vs b bs j r ih =>
    intro i v e
    cases i with
    | zero =>
      cases e
      obtain ⟨f, ds, m, t, u, h1, _, _, h4, h5, _⟩ := j
      exact ⟨some b.sign, rfl, .inl ⟨f, ds, m, _, t, h1, h4, h5, rfl⟩⟩
    | succ i => exact ih (i := i) (by simpa using e)
theorem Row.signs {N : Nat} {h : Heap} {c : Str} {vs : List Value} {bs : List Bearer} (r : Row N h vs bs) : ∀ {ys : List Value}, Paired (fun v y => ∃ b, KeyB h v b ∧ y = .bool (ltv c b)) vs ys → ys = (keysB bs).map fun b => .bool (ltv c b) := by
  induction r with
  | @nil x t =>
    intro ys p
    cases p with
    | cons a p =>
      cases p
      obtain ⟨b, hb, rfl⟩ := a
      rw [KeyB.uniq hb (.inr ⟨x, t, rfl, rfl⟩)]
      rfl
  | @cons v' vs b bs j r ih =>
    intro ys p
    cases p with
    | cons a p =>
      obtain ⟨b', hb, rfl⟩ := a
      obtain ⟨f, ds, m, t, u, h1, _, _, h4, h5, _⟩ := j
      rw [KeyB.uniq hb (.inl ⟨f, ds, m, _, t, h1, h4, h5, rfl⟩), ih p]
      rfl
section
variable {w : World} {A : Around} {E : Value → Shared → Prop} {s : Shared} {env : Env}
theorem EqGives.bool (a b : Bool) : MeetsSeq.EqGives (.bool a) (.bool b) (a == b) := fun prog w A E s Q h => SeqAt.EqAt.bool_bool a b prog w E Q h
theorem Index_ {o x : Expr} {apos pos : Pos} {Q : Value → Shared → Prop}
    (h : wpAny (model pr w) A (eval o env) (fun ov s₁ => ∃ D its, ov = .ref D ∧ s₁.heap.PlainList D its ∧ wpAny (model pr w) A (eval x env) (fun v s₂ => ∃ (e : Value → Bool) (j : Nat), ∃ hj : j < its.size, s₂.heap.PlainList D its ∧
      (∀ y, y ∈ its → MeetsSeq.EqGives y v (e y)) ∧ its.size ≤ sizeLine ∧ e its[j] = true ∧ (∀ m (hm : m < its.size), m < j → e its[m] = false) ∧ ∀ t tk, Q (.int (j : Int) t) { s₂ with toks := tk }) E s₁) E s)
    (hbase : attributeBase o "index" env (eval o env) = eval o env := by rfl)
    (hfew : ((backTo pos (starEach [x] env)).all (fun x => !x.1) && (backToKw pos (keywordEach [] env)).all (fun x => x.1.isSome)
      && decide (([x] : List Expr).length + ([] : List Keyword).length + (if ([] : List Keyword).isEmpty then 0 else 1) < 30)) = true := by rfl)
    (hline : (apos.endLine == pos.line) = true := by rfl) (htrees : backTo pos (starEach [x] env) = [(false, eval x env)] := by rfl) :
    wpAny (model pr w) A (eval (.Call (.Attribute o "index" apos) [x] [] pos) env) Q E s := by
  refine Meth_ (wpAny_mono h (fun ov s₁ h₁ => ?_) fun _ _ e => e) hbase hfew hline
  obtain ⟨D, its, rfl, hD, h₁⟩ := h₁
  rw [htrees]
  refine ⟨"list", _, F.plainAttrs_list, F.slot_list_index, F.type_list_index, hD.isList.typeIs, fun a e => ?_, P.index_list (wpAny_mono h₁ (fun v s₂ h₂ => ?_) fun _ _ e => e)⟩
  · cases e; obtain ⟨n, hD⟩ := hD; exact ⟨_, hD, rfl⟩
  · obtain ⟨e, j, hj, ⟨n, hl⟩, he, hsz, h1, h2, hq⟩ := h₂
    rw [sizeLine_eq] at hsz
    exact ⟨its, n, e, j, hj, hl, he, by omega, h1, h2, hq _ _⟩
end
end Mine
set_option maxHeartbeats 2000000
namespace Mine
theorem all_eq {xs ys : List Str} (h : xs.length = ys.length) : ((List.range xs.length).all fun j => xs[j]? == ys[j]?) = decide (xs = ys) := by
  by_cases e : xs = ys
  · subst e; simp
  · rw [decide_eq_false e]
    rw [Bool.eq_false_iff]
    intro q
    rw [List.all_eq_true] at q
    apply e
    apply List.ext_getElem?
    intro i
    by_cases hi : i < xs.length
    · simpa using q i (List.mem_range.mpr hi)
    · rw [List.getElem?_eq_none (by omega), List.getElem?_eq_none (by omega)]
section
variable {w : World} {A : Around} {E : Value → Shared → Prop} {s : Shared}
theorem Strs.eqAt {A : Around} {s : Shared} {vs us : List Value} {xs ys : List Str} (hx : Strs vs xs) (hy : Strs us ys) (j : Nat) (h1 : j < vs.toArray.size) (h2 : j < us.toArray.size) : SeqAt.EqAt A s vs.toArray[j] us.toArray[j] (xs[j]? == ys[j]?) := by
  obtain ⟨x, ex, sx⟩ := hx.at (i := j) (v := vs.toArray[j]) (by simp at h1; simp [h1])
  obtain ⟨y, ey, sy⟩ := hy.at (i := j) (v := us.toArray[j]) (by simp at h2; simp [h2])
  obtain ⟨t, et⟩ := sv_eq sx
  obtain ⟨u, eu⟩ := sv_eq sy
  rw [et, eu, ex, ey]
  exact SeqAt.EqAt.str_str x t y u
theorem eqStrs {a b : Addr} {vs us : List Value} {xs ys : List Str} {Q : Value → Shared → Prop} (ha : s.heap.PlainList a vs.toArray) (hb : s.heap.PlainList b us.toArray) (hx : Strs vs xs) (hy : Strs us ys) (hu : A.units < cLine)
    (h : Q (.bool (decide (xs = ys))) s) : wpAny (model pr w) A (compareOp .Eq (.ref a) (.ref b)) Q E s := by
  by_cases hl : xs.length = ys.length
  · rw [← all_eq hl] at h
    have e : vs.toArray.size = xs.length := by simp [hx.length]
    rw [← e] at h
    exact SeqAt.RcAt.lists ha.isList hb.isList (by simp [hx.length, hy.length, hl]) hu (fun j h1 h2 => hx.eqAt hy j h1 h2) pr w E Q h
  · rw [decide_eq_false (fun q => hl (by rw [q]))] at h
    exact SeqAt.RcAt.lists_lengths ha.isList hb.isList (by simp [hx.length, hy.length, hl]) hu pr w E Q h
theorem neStrs {a b : Addr} {vs us : List Value} {xs ys : List Str} {Q : Value → Shared → Prop} (ha : s.heap.PlainList a vs.toArray) (hb : s.heap.PlainList b us.toArray) (hx : Strs vs xs) (hy : Strs us ys) (hu : A.units < cLine)
    (h : Q (.bool (!decide (xs = ys))) s) : wpAny (model pr w) A (compareOp .NotEq (.ref a) (.ref b)) Q E s := by
  by_cases hl : xs.length = ys.length
  · rw [← all_eq hl] at h
    have e : vs.toArray.size = xs.length := by simp [hx.length]
    rw [← e] at h
    exact SeqAt.RcNeAt.lists ha.isList hb.isList (by simp [hx.length, hy.length, hl]) hu (fun j h1 h2 => hx.eqAt hy j h1 h2) pr w E Q h
  · rw [decide_eq_false (fun q => hl (by rw [q]))] at h
    exact SeqAt.RcNeAt.lists_lengths ha.isList hb.isList (by simp [hx.length, hy.length, hl]) hu pr w E Q h
end
end Mine
set_option maxHeartbeats 2000000
namespace Mine
/-- put_in's table of code objects -/
def TabOk (h : Heap) : Prop := ∃ ps, h.get? 91 = some (tabObj ps) ∧ TriplesOk ps.toList
theorem TabOk.kp {h h' : Heap} {X : List Addr} (t : TabOk h) (k : Kp X h h') (n : 91 ∉ X) : TabOk h' := let ⟨ps, e, r⟩ := t; ⟨ps, k _ _ n e, r⟩
theorem gl_bi (w : World) : nsIn (KF w) mainGlobals "__builtins__" = some (some (.ref 4)) := by kernel_rfl
theorem code93 {w : World} {h : Heap} (T : Tp w h) : CodeHd h 93 91 := ⟨_, _, _, _, _, _, _, _, _, T.K 93 _ rfl, rfl, rfl, rfl, rfl, rfl, rfl, rfl, rfl, by decide⟩
section
variable {w : World} {A : Around} {E : Value → Shared → Prop} {s : Shared} {env : Env}
theorem Lam_ {params : Arguments} {body : Expr} {scope : Scope} {pos : Pos} {Q : Value → Shared → Prop} (T : Tp w s.heap) (tb : TabOk s.heap)
    (h : ∀ f fd h' tk, s.heap.objs.size ≤ f → h'.get? f = some (fnObj none fd) → Kp [91] s.heap h' → TabOk h' → Q (.ref f) { s with heap := h', toks := tk })
    (hd : defaultsOf params env = ([], []) := by rfl) (hcl : closureFor scope env = pure [] := by rfl) (hg : env.globals = mainGlobals := by rfl) (hc : env.code = .ref 93 := by rfl) :
    wpAny (model pr w) A (eval (.Lambda params body scope pos) env) Q E s := by
  rw [arm_eval_Lambda, hd]
  refine wpAny_bind (wpAny_pure (wpAny_bind (wpAny_holding (wpAny_pure ?_))))
  obtain ⟨mg, G⟩ := T.g
  obtain ⟨ob, b1, b2, b3, b4⟩ := T.bm
  obtain ⟨ps, hps, ht⟩ := tb
  have bi : s.heap.BuiltinsAt mg 91 := ⟨4, ob, mg_of T.K G (gl_bi w), by decide, by decide, by decide, b1, b2, b3, b4⟩
  cases hf : codeAmong pos ps.toList with
  | none =>
    refine kla_makeFunction hcl hg G hc (code93 T) hps ht hf (by decide) bi fun c' ctv h' tk hx h1 h2 _ h3 => ?_
    have k1 : Kp [91] s.heap h' := Kp.ext hx
    refine h _ _ _ _ (Nat.le_trans h1 (Nat.le_of_lt h2)) (Heap.get?_push_size _ rfl) (k1.trans (Kp.push _ _ _)) ⟨_, Heap.get?_push_of_some _ h3, ?_⟩
    have := TriplesOk_snoc (pos.line : Int) (pos.col : Int) (.ref c') ps.toList ht
    simpa using this
  | some cv =>
    refine kla_makeFunctionHit hcl hg G hc (code93 T) hps ht hf bi fun ctv h' tk hk h1 => ?_
    exact h _ _ _ _ h1 (Heap.get?_push_size _ rfl) ((Kp.of hk).trans (Kp.push _ _ _)) ⟨ps, Heap.get?_push_of_some _ (hk _ _ hps), ht⟩
end
end Mine
set_option maxHeartbeats 20000000
namespace Mine
local macro_rules | `(tactic| ktr_rel) => `(tactic| first | assumption | exact upd_eq | (refine upd_ne ?_ (by decide); ktr_rel))
theorem put_keys (c : Str) : ∀ bs : List Bearer, (∃ b, (keysB bs)[putAt c bs]? = some b ∧ ltv c b = true) ∧ ∀ m, m < putAt c bs → ∀ b, (keysB bs)[m]? = some b → ltv c b = false
  | [] => ⟨⟨none, rfl, rfl⟩, fun m hm => absurd hm (Nat.not_lt_zero _)⟩
  | e :: r => by
    obtain ⟨h1, h2⟩ := put_keys c r
    unfold putAt
    split
    · rename_i h
      exact ⟨⟨some e.sign, rfl, decide_eq_true h⟩, fun m hm => absurd hm (Nat.not_lt_zero _)⟩
    · rename_i h
      refine ⟨h1, fun m hm b hb => ?_⟩
      cases m with
      | zero => cases hb; exact decide_eq_false h
      | succ m => exact h2 m (by lia) b (by simpa [keysB] using hb)
def isT : Value → Bool
  | .bool b => b
  | _ => false
section
variable {w : World} {A : Around} {E : Value → Shared → Prop} {s : Shared}
theorem put_ok {N : Nat} {D : Addr} {vs : List Value} {bs : List Bearer} {c : Str} {p : Nat} {t u : Tok} {Q : Value → Shared → Prop} (T : Tp w s.heap) (k : Ok A 4) (hN : 115 ≤ N) (hN2 : N ≤ s.heap.objs.size) (hD : s.heap.PlainList D vs.toArray) (hDN : 115 ≤ D) (hr : Row N s.heap vs bs) (tb : TabOk s.heap) (hl : bs.length ≤ 1000)
    (hQ : ∀ D' vs' h' tk, h'.PlainList D' (List.toArray vs') → s.heap.objs.size ≤ D' → Kp [91] s.heap h' → Row N h' vs' (putB ⟨c, p⟩ bs) → TabOk h' → Q (.ref D') { s with heap := h', toks := tk }) :
    wpAny (model pr w) A (call (.ref 94) [.ref D, .str c t, .int (p : Int) u]) Q E s := by
  refine wpAny_call (enter (a := 94) (binds := [("row", .ref D), ("order", .str c t), ("place", .int (p : Int) u)]) T k rfl rfl (by kernel_rfl) rfl rfl rfl rfl (by decide) ?_)
  intro h₁ tk A' E' k' env B
  have tpB : ∀ {m cm : Str → Option Value} {h : Heap}, Bd [91] s.heap env m cm h → Tp w h := fun B => T.kp B.keep (fun b hb => .inr (List.mem_singleton.mp hb))
  have keep0 := B.keep
  have B : Bd [91] s.heap env _ _ h₁ := { B with keep := B.keep.mono (fun _ q => nomatch q) }
  have hL := B.low T
  have n91 : ∀ b ∈ ([91] : List Addr), b < N := fun b hb => by rw [List.mem_singleton.mp hb]; exact Nat.lt_of_lt_of_le (by decide) hN
  have hlen := hr.len
  have D91 : D ∉ ([91] : List Addr) := fun q => by rw [List.mem_singleton.mp q] at hDN; exact absurd hDN (by decide)
  refine wpAny_execs_cons (wpAny_Assign_Name (Fn_ (tpB B) (gl_89 w) (by kernel_rfl) (wpAny_items_cons (ldL B.ns (by ktr_rel) (wpAny_items_cons (ldL B.ns (by ktr_rel) (wpAny_items_nil ⟨tpB B, handler_ok (tpB B) (k'.less (by decide)) fun x h₂ tk₂ hx k₂ => (B.keeps k₂).stC fun h₃ B₃ k₃ => ?_⟩)))))))
  (show wpAny _ _ (execs _ _) _ _ _; refine cut (P := fun st => wpAny _ _ (execs _ _) _ _ st) (h := h₃) (g := Shared.gens s) (d := Shared.drawn s) (o := Shared.os s) fun _ => ?_)
  have hx3 : IsH h₁.objs.size h₃ x (.str c t) (.int (p : Int) u) := hx.kp k₃ (fun b hb => B.lt b hb)
  have D3 : h₃.PlainList D vs.toArray := kpL hD B₃.keep D91
  have cnew : h₃.IsCell _ (some (.ref x)) := B₃.cell "new" _ rfl
  refine wpAny_execs_cons (CompA_ (ldL B₃.ns (by ktr_rel) (iterL D3.isList fun o St W st _ => ⟨_, _, _, _, _, St, fun _ => true, fun _ v y => ∃ b, KeyB s.heap v b ∧ y = .bool (ltv c b), rfl, W _ k'.hd, st, ?_, B₃.keeps (Kp.push _ _ _), ?_, ?_, ?_⟩)))
  · refine ⟨?_, fun b hb => ?_, fun _ _ _ _ _ _ _ q => q, fun C i v s₃ m₃ E₃ _ _ _ _ _ _ _ => noTests (v := v), fun C i v s₃ m₃ E₃ hC hv _ hn hm hk hsz _ => ?_⟩
    · rw [List.size_toArray, sizeLine_eq]; lia
    · show b < (Heap.push _ _).objs.size
      rw [Heap.size_push]
      rcases List.mem_cons.mp hb with rfl | hb
      · exact Nat.lt_succ_self _
      · rw [List.mem_singleton.mp hb]; obtain ⟨_, e⟩ := D3; exact Nat.lt_succ_of_lt (Heap.lt_size e)
    · have kk : ∀ b o, b < h₃.objs.size → h₃.get? b = some o → s₃.heap.get? b = some o := fun b o hb e => hk b o (notMem1 (Nat.ne_of_lt hb)) (Heap.get?_push_of_some _ e)
      have kall : Kp [91] s.heap s₃.heap := fun b o n e => kk b o (Heap.lt_size (B₃.keep b o n e)) (B₃.keep b o n e)
      have k3 : Kp [] h₃ s₃.heap := fun b o _ e => kk b o (Heap.lt_size e) e
      obtain ⟨b, hb, kb⟩ := (hr.kp kall n91).at (i := i) (v := v) (by simpa using hv)
      obtain ⟨b0, hb0, kb0⟩ := hr.at (i := i) (v := v) (by simpa using hv)
      rw [hb] at hb0; cases hb0
      have T₃ : Tp w s₃.heap := (tpB B₃).kp k3 Far.nil
      have cn : s₃.heap.IsCell _ (some (.ref x)) := let ⟨o, e, r⟩ := cnew; ⟨o, k3.all _ _ e, r⟩
      refine wpAny_Compare1 (ldC cn (ldL hn hm (cmpH hn ?_ T₃ (k'.less (by decide)) (hx3.kp k3 (fun _ q => nomatch q)) kb.oth fun h' tk' kk' => ⟨⟨b, kb0, rfl⟩, keepsH kk'.all⟩)))
      exact Nat.le_trans T.size (Nat.le_trans B₃.fresh (Nat.le_trans (Nat.le_of_lt B₃.ns.lt) (Nat.le_trans (by show _ ≤ (Heap.push _ _).objs.size; rw [Heap.size_push]; exact Nat.le_succ _) hC)))
  · intro b hb q
    rw [List.mem_singleton.mp q] at hb
    exact B₃.new (Nat.le_refl _) hb
  · intro b hb _
    rw [List.mem_singleton.mp hb]
    exact B₃.none (Nat.le_refl _)
  intro h₄ tk₄ ys vs₄ S₄ hl₄ hP₄ hF₄ B₄ k₄
  rw [List.filter_eq_self.mpr (fun _ _ => rfl), vs_eq hl₄ hP₄] at hF₄
  have ey : ys.toList = (keysB bs).map fun b => .bool (ltv c b) := hr.signs hF₄
  have esz : ys.size = bs.length + 1 := by rw [← Array.length_toList, ey]; simp [keysB]
  have eat : ∀ {i : Nat} {v : Value}, ys[i]? = some v → ∃ b, (keysB bs)[i]? = some b ∧ v = .bool (ltv c b) := fun {i v} e => by
    rw [← Array.getElem?_toList, ey, List.getElem?_map] at e
    cases hb : (keysB bs)[i]? with
    | none => rw [hb] at e; cases e
    | some b => rw [hb] at e; cases e; exact ⟨b, rfl, rfl⟩
  have lD : D < h₁.objs.size := by obtain ⟨n, e⟩ := kpL hD B.keep D91; exact Heap.lt_size e
  have nS : h₃.objs.size + 1 ∉ own env := B₃.new (Nat.le_succ _)
  have S4 : h₄.PlainList (h₃.objs.size + 1) ys := by have := S₄; rw [Heap.size_push] at this; exact this
  have T₄ := tpB B₄
  (show wpAny _ _ (execs _ _) _ _ _; refine cut (P := fun st => wpAny _ _ (execs _ _) _ _ st) (h := h₄) (g := Shared.gens s) (d := Shared.drawn s) (o := Shared.os s) fun _ => ?_)
  refine wpAny_execs_cons (wpAny_If (wpAny_isTrue_BoolOp (wpAny_allTrue_Or_cons (wpAny_isTrue_Not (wpAny_isTrue_value (Sub1_ (ldL B₄.ns (by ktr_rel) (wpAny_UnaryOp (wpAny_Constant_int (P.neg_int ⟨_, ys, _, _, rfl, rfl, S₄.isList, by lia, by lia, by rw [sizeLine_eq]; lia, fun v hv => ?_⟩))))))))))
  have ev : v = .bool true := by
    rw [if_pos (by decide)] at hv
    rw [show ((-1 : Int) + ys.size).toNat = bs.length by lia] at hv
    obtain ⟨b, hb, rfl⟩ := eat hv
    simp [keysB] at hb
    subst hb; rfl
  subst ev
  refine wpAny_truthy_bool ?_
  rw [if_neg (by decide)]
  refine wpAny_allTrue_Or_cons (wpAny_isTrue_Compare1 (Comp_ (ldL B₄.ns (by ktr_rel) (iterL S₄.isList fun o₅ St₅ W₅ st₅ _ => ⟨_, _, _, _, _, St₅, fun _ => false, fun _ _ _ => False, rfl, W₅ _ k'.hd, st₅, ?_, ?_⟩))))
  · refine ⟨?_, fun b hb => ?_, fun _ _ _ _ _ _ _ q => q, fun C i v s₃ m₃ E₃ hC hv hn hm hk hsz _ => ?_, fun C i v s₃ m₃ E₃ hC hv hf => by cases hf⟩
    · rw [sizeLine_eq]; lia
    · show b < (Heap.push _ _).objs.size
      rw [Heap.size_push]
      rcases List.mem_cons.mp hb with rfl | hb
      · exact Nat.lt_succ_self _
      · rw [List.mem_singleton.mp hb]; obtain ⟨_, e⟩ := S₄; exact Nat.lt_succ_of_lt (Heap.lt_size e)
    · have k3 : Kp [] h₄ s₃.heap := fun b o _ e => hk b o (notMem1 (Nat.ne_of_lt (Heap.lt_size e))) (Heap.get?_push_of_some _ e)
      have T₃ : Tp w s₃.heap := T₄.kp k3 Far.nil
      obtain ⟨b, hb, rfl⟩ := eat hv
      exact wpAny_tests_one (wpAny_isTrue_Not (wpAny_isTrue_value (Bi_ T₃ (gn_isinstance w) bb_isinstance (wpAny_items_cons (ldL hn hm (wpAny_items_cons (ldB T₃ (gn_bool w) bb_bool (wpAny_items_nil (IsiPair.bool_bool (wpAny_truthy_bool ⟨rfl, keeps0 _⟩))))))))))
  intro h₅ tk₅ ys₅ vs₅ S₅ hl₅ hP₅ hF₅ k₅
  rw [List.filter_eq_nil_iff.mpr (by simp)] at hF₅
  have e5 : ys₅ = #[] := by cases h : ys₅.toList with | nil => simpa using h | cons a b => rw [h] at hF₅; cases hF₅
  subst e5
  have k5 : Kp [] h₄ h₅ := fun b o _ e => k₅ b o (notMem1 (Nat.ne_of_lt (Heap.lt_size e))) (Heap.get?_push_of_some _ e)
  refine wpAny_List (wpAny_items_nil ⟨by decide, neStrs (vs := []) (us := []) (xs := []) (ys := []) (kpL S₅ (Kp.push [] _ _) (by simp)) ⟨_, Heap.get?_push_size _ rfl⟩ rfl rfl k'.units (wpAny_truthy_bool ?_)⟩)
  rw [if_neg (by decide)]
  refine wpAny_allTrue_Or_nil ?_
  rw [if_neg (by decide)]
  refine wpAny_execs_nil ?_
  have k6 : Kp [] h₄ (h₅.push { cls := .type "list", data := .seq [].toArray }) := k5.trans (Kp.push _ _ _)
  generalize hh6 : h₅.push { cls := .type "list", data := .seq [].toArray } = h₆ at k6 ⊢
  have B₆ := B₄.keeps k6
  have S₆ := kpL S₄ k6 (by simp)
  (show wpAny _ _ (execs _ _) _ _ _; refine cut (P := fun st => wpAny _ _ (execs _ _) _ _ st) (h := h₆) (g := Shared.gens s) (d := Shared.drawn s) (o := Shared.os s) fun _ => ?_)
  have n91o : 91 ∉ own env := fun q => by have := B.ownNew 91 q; have := T.size; lia
  have n91c : 91 ∉ [h₃.objs.size] ++ own env := fun q => by
    rcases List.mem_append.mp q with q | q
    · have := List.mem_singleton.mp q
      have e := Nat.lt_of_lt_of_le B.ns.lt (Nat.le_refl _)
      have l3 : 115 ≤ h₃.objs.size := Nat.le_trans hL (Nat.le_of_lt B₃.ns.lt)
      lia
    · exact n91o q
  have tb3 : TabOk h₃ := ((tb.kp keep0 (by simp)).kp k₂ (by simp)).kp k₃ n91o
  have tb6 : TabOk h₆ := ((tb3.kp (Kp.push [] _ _) (by simp)).kp k₄ n91c).kp k6 (by simp)
  refine wpAny_execs_cons (wpAny_Assign_Name (Lam_ (tpB B₆) tb6 fun f fd h₇ tk₇ hf of k₇ tb7 => ?_))
  have B₇ : Bd [91] s.heap env _ _ h₇ := B₆.stay k₇ (fun b hb q => n91o (by rw [← List.mem_singleton.mp q]; exact hb)) (fun b hb n => absurd hb n)
  have n91S : 91 ≠ h₃.objs.size + 1 := by have l3 : 115 ≤ h₃.objs.size := Nat.le_trans hL (Nat.le_of_lt B₃.ns.lt); lia
  have S₇ := kpL S₆ k₇ (by rw [Heap.size_push]; exact notMem1 (Ne.symm n91S))
  refine B₇.stL fun h₈ B₈ k₈ => ?_
  (show wpAny _ _ (execs _ _) _ _ _; refine cut (P := fun st => wpAny _ _ (execs _ _) _ _ st) (h := h₈) (g := Shared.gens s) (d := Shared.drawn s) (o := Shared.os s) fun _ => ?_)
  have nf := B₆.new hf
  have nf0 := B₆.none hf
  have S₈ := kpL S₇ k₈ (by rw [Heap.size_push]; exact nS)
  have o8 : IsF h₈ f [] (fun _ => none) := .inl ⟨fd, k₈ _ _ nf of, rfl, fun _ => rfl⟩
  have fS : f ≠ h₃.objs.size + 1 := by rintro rfl; obtain ⟨n, e⟩ := S₇; rw [Heap.size_push, of] at e; exact absurd (congrArg (fun o : Obj => o.cls) (Option.some.inj e)) (fun q => by injection q with q; exact absurd q (by decide))
  have sz : s.heap.objs.size ≤ h₆.objs.size := Nat.le_trans B₆.fresh (Nat.le_of_lt B₆.ns.lt)
  refine wpAny_execs_cons (plainObj_wpAny_Assign_Attribute (ldL B₈.ns (by ktr_rel) (ldL B₈.ns (by ktr_rel) (setF o8 Within.nil (by decide) look_fn1 fun h₉ tk₉ dx i9 hdx k₉ => ?_))))
  obtain rfl : h₈.objs.size = dx := by rcases hdx with hdx | hdx; cases hdx; exact hdx
  (show wpAny _ _ (execs _ _) _ _ _; refine cut (P := fun st => wpAny _ _ (execs _ _) _ _ st) (h := h₉) (g := Shared.gens s) (d := Shared.drawn s) (o := Shared.os s) fun _ => ?_)
  have ndx := B₈.new (Nat.le_refl _)
  have ndx0 := B₈.none (Nat.le_refl _)
  have sz8 : s.heap.objs.size ≤ h₈.objs.size := Nat.le_trans B₈.fresh (Nat.le_of_lt B₈.ns.lt)
  have lS8 : h₃.objs.size + 1 < h₈.objs.size := by obtain ⟨n, e⟩ := S₈; rw [Heap.size_push] at e; exact Heap.lt_size e
  have B₉ : Bd [91] s.heap env _ _ h₉ := B₈.stay k₉ (fun b hb q => by
    rcases List.mem_cons.mp q with rfl | q
    · exact nf hb
    · exact ndx (by rw [← List.mem_singleton.mp q]; exact hb)) (fun b q _ => by
    rcases List.mem_cons.mp q with rfl | q
    · exact nf0
    · rw [List.mem_singleton.mp q]; exact ndx0)
  have S₉ := kpL S₈ k₉ (fun q => by
    rw [Heap.size_push] at q
    rcases List.mem_cons.mp q with q | q
    · exact fS q.symm
    · exact Nat.ne_of_lt lS8 (List.mem_singleton.mp q))
  refine wpAny_execs_cons (plainObj_wpAny_Assign_Attribute (ldL B₉.ns (by ktr_rel) (ldL B₉.ns (by ktr_rel) (setF i9 (Within.cons _ _ Within.nil) (by decide) look_fn2 fun h₁₀ tk₁₀ dx' i10 hdx' k₁₀ => ?_))))
  (show wpAny _ _ (execs _ _) _ _ _; refine cut (P := fun st => wpAny _ _ (execs _ _) _ _ st) (h := h₁₀) (g := Shared.gens s) (d := Shared.drawn s) (o := Shared.os s) fun _ => ?_)
  have hd' : h₈.objs.size ≤ dx' := by
    rcases hdx' with hdx' | hdx'
    · cases hdx'; exact Nat.le_refl _
    · rw [← hdx']
      rcases i9 with ⟨_, _, e, _⟩ | ⟨_, d, e, e2, n⟩
      · cases e
      · cases e2; exact Nat.le_of_lt n.ns.lt
  have ndx' := B₈.new hd'
  have ndx0' := B₈.none hd'
  have B₁₀ : Bd [91] s.heap env _ _ h₁₀ := B₉.stay k₁₀ (fun b hb q => by
    rcases List.mem_cons.mp q with rfl | q
    · exact nf hb
    · exact ndx' (by rw [← List.mem_singleton.mp q]; exact hb)) (fun b q _ => by
    rcases List.mem_cons.mp q with rfl | q
    · exact nf0
    · rw [List.mem_singleton.mp q]; exact ndx0')
  have S₁₀ := kpL S₉ k₁₀ (fun q => by
    rw [Heap.size_push] at q
    rcases List.mem_cons.mp q with q | q
    · exact fS q.symm
    · exact Nat.ne_of_lt (Nat.lt_of_lt_of_le lS8 hd') (List.mem_singleton.mp q))
  obtain ⟨pk1, pk2⟩ := put_keys c bs
  have hat := putAt_le c bs
  refine wpAny_execs_cons (wpAny_Assign_Name (Index_ (ldL B₁₀.ns (by ktr_rel) ⟨_, ys, rfl, S₁₀, wpAny_Constant_bool ⟨isT, putAt c bs, by lia, S₁₀, ?_, by rw [sizeLine_eq]; lia, ?_, ?_, fun t₁₁ tk₁₁ => B₁₀.stL fun h₁₁ B₁₁ k₁₁ => ?_⟩⟩)))
  · intro y hy
    obtain ⟨i, hi, e⟩ := Array.getElem_of_mem hy
    obtain ⟨b, _, rfl⟩ := eat (i := i) (v := y) (by rw [Array.getElem?_eq_getElem hi, e])
    have := EqGives.bool (ltv c b) true
    rwa [show (ltv c b == true) = isT (.bool (ltv c b)) by simp [isT]] at this
  · obtain ⟨b, hb, hl⟩ := pk1
    obtain ⟨b', hb', e⟩ := eat (Array.getElem?_eq_getElem (show putAt c bs < ys.size by lia))
    rw [hb] at hb'; cases hb'
    rw [e]; exact hl
  · intro m hm hlt
    obtain ⟨b', hb', e⟩ := eat (Array.getElem?_eq_getElem hm)
    rw [e]; exact pk2 m hlt b' hb'
  (show wpAny _ _ (execs _ _) _ _ _; refine cut (P := fun st => wpAny _ _ (execs _ _) _ _ st) (h := h₁₁) (g := Shared.gens s) (d := Shared.drawn s) (o := Shared.os s) fun _ => ?_)
  have iF : IsF h₁₁ f [dx'] _ := i10.kp k₁₁ nf (fun d hd => by rw [List.mem_singleton.mp hd]; exact ndx')
  have D11 : h₁₁.PlainList D vs.toArray := kpL hD B₁₁.keep D91
  have f91 : (91 : Nat) ≠ f := fun e => by have : 115 ≤ f := Nat.le_trans T.size (Nat.le_trans sz hf); lia
  have d91 : (91 : Nat) ≠ h₈.objs.size := fun e => by have := Nat.le_trans T.size sz8; lia
  have d91' : (91 : Nat) ≠ dx' := fun e => by have := Nat.le_trans (Nat.le_trans T.size sz8) hd'; lia
  have tb11 : TabOk h₁₁ := (((tb7.kp k₈ n91o).kp k₉ (by simp; exact ⟨f91, d91⟩)).kp k₁₀ (by simp; exact ⟨f91, d91'⟩)).kp k₁₁ n91o
  refine wpAny_execs_cons (wpAny_Return_some (wpAny_BinOp (wpAny_BinOp (SlL_ (ldL B₁₁.ns (by ktr_rel) (wpAny_pure (ldL B₁₁.ns (by ktr_rel) ⟨D, vs.toArray, none, some (putAt c bs : Int), rfl, D11.isList, by rw [List.size_toArray, sizeLine_eq]; lia, IsPart.none, IsPart.int _ _, fun h₁₂ k₁₂ P₁₂ => ?_⟩)))))))
  have B₁₂ := B₁₁.keeps k₁₂
  have k13 : Kp [] h₁₂ (h₁₂.push { cls := .type "list", data := .seq [Value.ref f].toArray }) := Kp.push _ _ _
  have P13 := kpL P₁₂ k13 (by simp)
  refine wpAny_List (wpAny_items_cons (ldL B₁₂.ns (by ktr_rel) (wpAny_items_nil ⟨by show 1 ≤ sizeLine; decide, ?_⟩)))
  refine addL P13 ⟨_, Heap.get?_push_size _ rfl⟩ ?_ fun h₁₄ k₁₄ P₁₄ => ?_
  · have := slicePick_size_le vs.toArray none (some (putAt c bs : Int)) none
    simp at this ⊢
    rw [sizeLine_eq]; lia
  have k14 : Kp [] h₁₁ h₁₄ := (k₁₂.trans k13).trans k₁₄
  have B₁₄ := B₁₁.keeps k14
  refine SlL_ (ldL B₁₄.ns (by ktr_rel) (ldL B₁₄.ns (by ktr_rel) (wpAny_pure ⟨D, vs.toArray, some (putAt c bs : Int), none, rfl, (kpL D11 k14 (by simp)).isList, by rw [List.size_toArray, sizeLine_eq]; lia, IsPart.int _ _, IsPart.none, fun h₁₅ k₁₅ P₁₅ => ?_⟩)))
  refine addL (kpL P₁₄ k₁₅ (by simp)) P₁₅ ?_ fun h₁₆ k₁₆ P₁₆ => ?_
  · have := slicePick_size_le vs.toArray none (some (putAt c bs : Int)) none
    have := slicePick_size_le vs.toArray (some (putAt c bs : Int)) none none
    simp at *
    rw [sizeLine_eq]; lia
  rw [slicePick_upto vs.toArray _ (by simp; lia), slicePick_from vs.toArray _ (by simp; lia)] at P₁₆
  have k16 : Kp [] h₁₁ h₁₆ := (k14.trans k₁₅).trans k₁₆
  have K16 : Kp [91] s.heap h₁₆ := B₁₁.keep.trans (k16.mono (by simp))
  have row := (hr.kp K16 n91).put (v := .ref f) (b := ⟨c, p⟩) ⟨f, [dx'], _, _, _, rfl, Nat.le_trans hN2 (Nat.le_trans sz hf), fun d hd => by rw [List.mem_singleton.mp hd]; exact Nat.le_trans hN2 (Nat.le_trans sz8 hd'), iF.kp k16 (by simp) (by simp), by ktr_rel, by ktr_rel⟩
  refine hQ _ _ _ _ ?_ (Nat.le_trans B₁₁.fresh (Nat.le_of_lt (B₁₁.keeps (k14.trans k₁₅)).ns.lt)) K16 row (tb11.kp k16 (by simp))
  simpa using P₁₆
end
end Mine
set_option maxHeartbeats 4000000
namespace Mine
local macro_rules | `(tactic| ktr_rel) => `(tactic| first | assumption | exact upd_eq | (refine upd_ne ?_ (by decide); ktr_rel))
theorem Paired.len' {R : Value → Value → Prop} : ∀ {xs ys : List Value}, Paired R xs ys → xs.length = ys.length
  | _, _, .nil => rfl
  | _, _, .cons _ t => by simp [Paired.len' t]
theorem Paired.at' {R : Value → Value → Prop} : ∀ {xs ys : List Value}, Paired R xs ys → ∀ {j : Nat} {y : Value}, ys[j]? = some y → ∃ x, xs[j]? = some x ∧ R x y
  | _, _, .nil, j, y, e => by simp at e
  | x :: xs, _ :: ys, .cons r t, j, y, e => by
    cases j with
    | zero => cases e; exact ⟨x, rfl, r⟩
    | succ j => exact Paired.at' t (j := j) (by simpa using e)
theorem range_paired {R : Nat → Value → Prop} {vs : List Value} {ys : Array Value} {a n : Nat} (hl : vs.length = n) (hP : ∀ j v, vs[j]? = some v → ∃ t, v = Value.int ((a + j : Nat) : Int) t)
    (hF : Paired (fun v y => ∃ (i : Nat) (t : Tok), v = Value.int (i : Int) t ∧ R i y) (vs.filter fun _ => true) ys.toList) : ys.size = n ∧ ∀ j y, ys[j]? = some y → R (a + j) y := by
  rw [List.filter_eq_self.mpr (fun _ _ => rfl)] at hF
  refine ⟨by rw [← hl, Paired.len' hF]; simp, fun j y e => ?_⟩
  obtain ⟨x, ex, i, t, rfl, r⟩ := Paired.at' hF (j := j) (y := y) (by simpa using e)
  obtain ⟨u, e2⟩ := hP j _ ex
  injection e2 with e2
  have : i = a + j := by lia
  subst this
  exact r
theorem ints_of {f : Nat → Int} : ∀ {n : Nat} {ys : List Value}, ys.length = n → (∀ j y, ys[j]? = some y → ∃ t, y = Value.int (f j) t) → IntsAre ys ((List.range n).map f)
  | 0, [], _, _ => .nil
  | n + 1, y :: ys, hl, h => by
    obtain ⟨t, rfl⟩ := h 0 y rfl
    rw [List.range_succ_eq_map, List.map_cons, List.map_map]
    exact .cons _ _ (ints_of (f := f ∘ Nat.succ) (by simpa using hl) fun j y e => h (j + 1) y (by simpa using e))
def wide (ns : List Int) : Bool := ns.any fun a => ns.any fun b => decide (a - b > 1)
def cntsP (r : Str) (size : Nat) : List Int := (List.range r.length).map fun (place : Nat) => (Txt.count (Txt.slice (r ++ r) (some (place : Int)) (some ((place : Int) + (size : Int)))) ⟨#[40]⟩ : Int)
def spreadP (r : Str) : Bool := (List.range (r.length - 1)).all fun k => !wide (cntsP r (1 + k))
theorem wide_of {ns : List Int} {M m : Int} (h1 : M ∈ ns) (h2 : ∀ a ∈ ns, a ≤ M) (h3 : m ∈ ns) (h4 : ∀ a ∈ ns, m ≤ a) : decide (M - m > 1) = wide ns := by
  unfold wide
  rw [Bool.eq_iff_iff]
  simp only [decide_eq_true_eq, List.any_eq_true]
  constructor
  · exact fun h => ⟨M, h1, m, h3, h⟩
  · rintro ⟨a, ha, b, hb, h⟩
    have := h2 a ha
    have := h4 b hb
    lia
theorem Bd.cellv {X : List Addr} {h₀ h : Heap} {env : Env} {m cm : Str → Option Value} (B : Bd X h₀ env m cm h) {n : Str} {c : Addr} {v : Value} (hc : env.cells.lookup n = some c) (hv : cm n = some v) : h.IsCell c (some v) := hv ▸ B.cell n c hc
section
variable {w : World} {A : Around} {E : Value → Shared → Prop} {s : Shared}
theorem maxL {l : Addr} {vs : List Value} {ns : List Int} {Q : Value → Shared → Prop} (hh : A.handled = none) (hl : s.heap.IsList l vs.toArray) (hi : IntsAre vs ns) (hne : 0 < ns.length)
    (h : ∀ h' M (t : Tok) tk, Kp [] s.heap h' → M ∈ ns → (∀ a, a ∈ ns → a ≤ M) → Q (.int M t) { s with heap := h', toks := tk }) : wpAny (model pr w) A (call (.builtin "max") [.ref l]) Q E s := by
  obtain ⟨xs, e⟩ := hi.allInts.items
  have hns : ns = xs.toList.map (·.1) := by
    rw [← hi.numsOf, ← nums_intItems, ← e]
  have hsz : 0 < xs.size := by
    have h3 := hne; rw [hns, List.length_map, Array.length_toList] at h3; exact h3
  rw [e] at hl
  refine max_intList hh hl hsz fun v h' tk hv hk => ?_
  obtain ⟨t, rfl⟩ := intItems_at hv
  obtain ⟨h1, h2⟩ := argBest_gt (numAt xs) (xs.size - 1)
  refine h _ _ t tk (Kp.of hk) ?_ fun a ha => ?_
  · rw [hns, numAt_eq]; exact getD_mem (by rw [List.length_map, Array.length_toList]; lia)
  · rw [hns] at ha
    obtain ⟨j, hj, rfl⟩ := mem_getD ha
    rw [List.length_map, Array.length_toList] at hj
    rw [← numAt_eq]; exact h2 j (by lia)
theorem minL {l : Addr} {vs : List Value} {ns : List Int} {Q : Value → Shared → Prop} (hh : A.handled = none) (hl : s.heap.IsList l vs.toArray) (hi : IntsAre vs ns) (hne : 0 < ns.length)
    (h : ∀ h' M (t : Tok) tk, Kp [] s.heap h' → M ∈ ns → (∀ a, a ∈ ns → M ≤ a) → Q (.int M t) { s with heap := h', toks := tk }) : wpAny (model pr w) A (call (.builtin "min") [.ref l]) Q E s := by
  obtain ⟨xs, e⟩ := hi.allInts.items
  have hns : ns = xs.toList.map (·.1) := by
    rw [← hi.numsOf, ← nums_intItems, ← e]
  have hsz : 0 < xs.size := by
    have h3 := hne; rw [hns, List.length_map, Array.length_toList] at h3; exact h3
  rw [e] at hl
  refine min_intList hh hl hsz fun v h' tk hv hk => ?_
  obtain ⟨t, rfl⟩ := intItems_at hv
  obtain ⟨h1, h2⟩ := argBest_lt (numAt xs) (xs.size - 1)
  refine h _ _ t tk (Kp.of hk) ?_ fun a ha => ?_
  · rw [hns, numAt_eq]; exact getD_mem (by rw [List.length_map, Array.length_toList]; lia)
  · rw [hns] at ha
    obtain ⟨j, hj, rfl⟩ := mem_getD ha
    rw [List.length_map, Array.length_toList] at hj
    rw [← numAt_eq]; exact h2 j (by lia)
inductive SPJ (s : Shared) (env : Env) (r : Str) (t : Tok) (i : Nat) (s' : Shared) : Prop
  | mk (h : Heap) (tk : Nat) (m cm : Str → Option Value) (e : s' = { s with heap := h, toks := tk }) (B : Bd [] s.heap env m cm h) (e1 : cm "ring" = some (.str r t)) (hw : ∀ k, k < i → wide (cntsP r (1 + k)) = false) : SPJ s env r t i s'
theorem spread_ok {r : Str} {t : Tok} {Q : Value → Shared → Prop} (T : Tp w s.heap) (k : Ok A 3) (hr : 2 ≤ r.length) (hr2 : r.length ≤ 8)
    (hQ : ∀ h' tk, Kp [] s.heap h' → Q (.bool (spreadP r)) { s with heap := h', toks := tk }) : wpAny (model pr w) A (call (.ref 104) [.str r t]) Q E s := by
  refine wpAny_call (enter (a := 104) (binds := [("ring", .str r t)]) T k rfl rfl (by kernel_rfl) rfl rfl rfl rfl (by decide) ?_)
  intro h₁ tk A' E' k' env B
  have tpB : ∀ {m cm : Str → Option Value} {h : Heap}, Bd [] s.heap env m cm h → Tp w h := fun B => T.kp B.keep Far.nil
  have hrs : r.length ≤ sizeLine := by rw [sizeLine_eq]; lia
  have c0 : h₁.IsCell _ (some (.str r t)) := B.cell "ring" _ rfl
  refine wpAny_execs_cons (For_ (Ty_ (tpB B) (gn_range w) bb_range (wpAny_items_cons (wpAny_Constant_int (wpAny_items_cons (Bi_ (tpB B) (gn_len w) bb_len (wpAny_items_cons (ldC c0 (wpAny_items_nil (P.len_str (by lia) (wpAny_items_nil (range2 (M := 1) (N := r.length) fun h₂ ra t0 u v k₂ hra tk₂ => iterR hra (by decide) (by lia) fun h₃ St W st k₃ z₃ hin₃ => ?_))))))))))))
  have k13 : Kp [] h₁ h₃ := k₂.trans k₃
  have B₃ := B.keeps k13
  have nI : h₂.objs.size ∉ own env := (B.keeps k₂).new (Nat.le_refl _)
  have nI0 : s.heap.get? h₂.objs.size = none := (B.keeps k₂).none (Nat.le_refl _)
  refine ⟨_, _, _, _, _, St, fun i s' => SPJ s env r t i s', rfl, W _ k'.hd, st, ⟨_, _, _, _, rfl, B₃, rfl, fun k hk => absurd hk (Nat.not_lt_zero _)⟩, ?_, ?_⟩
  · rintro i v h' tk' _ E₂ hlt hst ⟨h, tk, m, cm, rfl, B, e1, hw⟩ ⟨ti, rfl⟩ hst' hk
    have B' := B.stay1 hk nI nI0
    refine B'.stC fun h₄ B₄ k₄ => ?_
    refine hideQ fun Q' hqq => ?_
    (show wpAny _ _ (execs _ _) _ _ _; refine cut (P := fun st => wpAny _ _ (execs _ _) _ _ st) (h := h₄) (g := Shared.gens s) (d := Shared.drawn s) (o := Shared.os s) fun _ => ?_)
    have st4 : St (i + 1) h₄ := (W _ k'.hd).frame _ _ _ hst' fun b hb o e => k₄ b o (by rw [List.mem_singleton.mp hb]; exact nI) e
    have cr := B₄.cellv (n := "ring") rfl (upd_ne e1 (by decide))
    have cz := B₄.cellv (n := "size") rfl upd_eq
    refine wpAny_execs_cons (CompA_ (X := []) (h₀ := s.heap) (m := m) (cm := upd cm "size" (.int ((1 + i : Nat) : Int) ti)) (Ty_ (tpB B₄) (gn_range w) bb_range (wpAny_items_cons (Bi_ (tpB B₄) (gn_len w) bb_len (wpAny_items_cons (ldC cr (wpAny_items_nil (P.len_str (by lia) (wpAny_items_nil (range1 (N := r.length) fun h₅ ra t0 u v k₅ hra tk₅ => iterR hra (by decide) (by lia) fun h₆ St₆ W₆ st₆ k₆ z₆ hin₆ => ?_))))))))))
    have k46 : Kp [] h₄ h₆ := k₅.trans k₆
    have B₆ := B₄.keeps k46
    have nJ : h₅.objs.size ∉ own env := (B₄.keeps k₅).new (Nat.le_refl _)
    have nJ0 : s.heap.get? h₅.objs.size = none := (B₄.keeps k₅).none (Nat.le_refl _)
    refine ⟨_, _, _, _, _, St₆, fun _ => true, fun _ v y => ∃ (j : Nat) (tj : Tok), v = .int (j : Int) tj ∧ ∃ ty, y = .int (Txt.count (Txt.slice (r ++ r) (some (j : Int)) (some ((j : Int) + ((1 + i : Nat) : Int)))) ⟨#[40]⟩ : Int) ty, rfl, W₆ _ k'.hd, st₆, ?_, B₆, fun b hb q => nJ (by rw [← List.mem_singleton.mp q]; exact hb), fun b q _ => by rw [List.mem_singleton.mp q]; exact nJ0, ?_⟩
    · refine ⟨by rw [sizeLine_eq]; lia, fun b hb => by rw [List.mem_singleton.mp hb]; exact Nat.lt_of_lt_of_eq (Nat.lt_succ_self _) z₆.symm, fun _ _ _ _ _ _ _ q => q, fun C i v s₃ m₃ E₃ _ _ _ _ _ _ _ => noTests (v := v), fun C j v s₃ m₃ E₃ hC hv _ hn hm hk hsz _ => ?_⟩
      obtain ⟨tj, rfl⟩ := hv
      have k3 : Kp [] h₄ s₃.heap := fun b o _ e => hk b o (notMem1 (Nat.ne_of_lt (Heap.lt_size (k₅.all _ _ e)))) (k46.all _ _ e)
      have cr3 : s₃.heap.IsCell _ (some (.str r t)) := let ⟨o, e, q⟩ := cr; ⟨o, k3.all _ _ e, q⟩
      have cz3 : s₃.heap.IsCell _ (some (.int ((1 + i : Nat) : Int) ti)) := let ⟨o, e, q⟩ := cz; ⟨o, k3.all _ _ e, q⟩
      have hs2 : r.length + r.length ≤ sizeLine := by rw [sizeLine_eq]; lia
      refine Meth_ (SlS_ (wpAny_BinOp (ldC cr3 (ldC cr3 (add_str (fun t4 tk4 => ldL (s := { s₃ with toks := tk4 }) hn hm (wpAny_BinOp (ldL hn hm (ldC cz3 (P.add_int ⟨r ++ r, t4, some (_, _), some (_, _), rfl, rfl, rfl, by rw [strLen_append]; exact hs2, fun h' t' k' kk => ?_⟩))))) hs2)))))
      refine SB.count ?_
      refine wpAny_Constant_str (k := 0) (pos := ⟨0, 0, 0, 0⟩) ⟨_, _, rfl, ⟨⟨0 + j, tj, rfl, _, rfl⟩, keepsH kk.all⟩⟩
    · intro h₇ tk₇ ys vs₇ S₇ hl₇ hP₇ hF₇ B₇ k₇
      obtain ⟨hys, hyv⟩ := range_paired hl₇ hP₇ hF₇
      have hin := ints_of (f := fun (place : Nat) => (Txt.count (Txt.slice (r ++ r) (some (place : Int)) (some ((place : Int) + ((1 + i : Nat) : Int)))) ⟨#[40]⟩ : Int)) (n := r.length) (ys := ys.toList) (by simp [hys]) fun j y e => by simpa using hyv j y (by simpa using e)
      (show wpAny _ _ (execs _ _) _ _ _; refine cut (P := fun st => wpAny _ _ (execs _ _) _ _ st) (h := h₇) (g := Shared.gens s) (d := Shared.drawn s) (o := Shared.os s) fun _ => ?_)
      have lI : h₂.objs.size < h₅.objs.size := hin₃ _ _ ((W _ k'.hd).frame _ _ h₅ st4 fun b _ o e => k₅.all _ _ e)
      have fr : ∀ {h h' : Heap} {X : List Addr}, St (i + 1) h → Kp X h h' → h₂.objs.size ∉ X → St (i + 1) h' := fun st k n => (W _ k'.hd).frame _ _ _ st fun b hb o e => k b o (by rw [List.mem_singleton.mp hb]; exact n) e
      have st7 : St (i + 1) h₇ := fr (fr st4 k46 (by simp)) k₇ (fun q => by
        rcases List.mem_append.mp q with q | q
        · exact Nat.ne_of_lt lI (List.mem_singleton.mp q)
        · exact nI q)
      have hcl : 0 < (cntsP r (1 + i)).length := by simp [cntsP]; lia
      refine wpAny_execs_cons (wpAny_If (wpAny_isTrue_Compare1 (wpAny_BinOp (Bi_ (tpB B₇) (gn_max w) bb_max (wpAny_items_cons (ldL B₇.ns (by ktr_rel) (wpAny_items_nil (maxL (ns := cntsP r (1 + i)) k'.hd (by simpa using S₇.isList) hin ?_ fun h₈ M tM tk₈ k₈ hM1 hM2 => ?_))))))))
      · exact hcl
      have B₈ := B₇.keeps k₈
      have S₈ := kpL S₇ k₈ (by simp)
      refine Bi_ (tpB B₈) (gn_min w) bb_min (wpAny_items_cons (ldL B₈.ns (by ktr_rel) (wpAny_items_nil (minL (ns := cntsP r (1 + i)) k'.hd (by simpa using S₈.isList) hin ?_ fun h₉ m' tm tk₉ k₉ hm1 hm2 => ?_))))
      · exact hcl
      have B₉ := B₈.keeps k₉
      refine P.sub_int (wpAny_Constant_int (P.gt_int (wpAny_truthy_bool ?_)))
      have ew : decide (M - m' > 1) = wide (cntsP r (1 + i)) := wide_of hM1 hM2 hm1 hm2
      by_cases hw' : wide (cntsP r (1 + i)) = true
      · rw [if_pos (by rw [ew]; exact hw')]
        refine wpAny_execs_cons (wpAny_Return_some (wpAny_Constant_bool ?_))
        have e : spreadP r = false := by
          unfold spreadP
          rw [Bool.eq_false_iff]
          intro q
          rw [List.all_eq_true] at q
          have := q i (List.mem_range.mpr (by lia))
          rw [hw'] at this
          cases this
        rw [e] at hQ
        exact hqq _ _ (hQ _ _ B₉.keep)
      · rw [if_neg (by rw [ew]; exact hw')]
        refine wpAny_execs_nil (wpAny_execs_nil (hqq _ _ ⟨fr (fr st7 k₈ (by simp)) k₉ (by simp), _, _, _, _, rfl, B₉, upd_ne e1 (by decide), fun k hk => ?_⟩))
        by_cases hki : k = i
        · subst hki; simpa using hw'
        · exact hw k (by lia)
  · rintro _ h' tk' _ ⟨h, tk, m, cm, rfl, B, e1, hw⟩ hk
    have B' := B.stay1 hk nI nI0
    refine wpAny_execs_cons (wpAny_Return_some (wpAny_Constant_bool ?_))
    have e : spreadP r = true := by
      unfold spreadP
      rw [List.all_eq_true]
      intro k hk
      rw [hw k (List.mem_range.mp hk)]; rfl
    rw [e] at hQ
    exact hQ _ _ B'.keep
end
end Mine
set_option maxHeartbeats 8000000
namespace Mine
local macro_rules | `(tactic| ktr_rel) => `(tactic| first | assumption | exact upd_eq | (refine upd_ne ?_ (by decide); ktr_rel))
def written : List Str := [Str.ofString "", Str.ofString "\",)\"", Str.ofString "\"(\\\"\\,\"", Str.ofString "\\)", Str.ofString "\"\\\\\"", Str.ofString " \"\" a"]
def readT : List Str := [Str.ofString "", Str.ofString "\",)\"", Str.ofString "\"(\",\"", Str.ofString "\\)", Str.ofString "\"\\\"", Str.ofString " \"\" a"]
def bareT : List Str := [Str.ofString "", Str.ofString "", Str.ofString "", Str.ofString "\\)", Str.ofString "", Str.ofString "  a"]
def commaT : List Str := [Str.ofString ",", Str.ofString ", ", Str.ofString " ,\t\n"]
def brkC (n : Int) : Nat := if n.fmod 2 = 0 then 40 else 41
def tl (n : Int) : Nat := ((n.fdiv 2).fmod 6).toNat
def cm3 (n : Int) : Nat := ((n.fdiv 12).fmod 3).toNat
theorem tl_lt (n : Int) : tl n < 6 := by
  have h1 := Int.fmod_lt_of_pos (n.fdiv 2) (b := 6) (by decide)
  have h2 := Int.fmod_nonneg_of_pos (n.fdiv 2) (b := 6) (by decide)
  unfold tl; lia
theorem cm3_lt (n : Int) : cm3 n < 3 := by
  have h1 := Int.fmod_lt_of_pos (n.fdiv 12) (b := 3) (by decide)
  have h2 := Int.fmod_nonneg_of_pos (n.fdiv 12) (b := 3) (by decide)
  unfold cm3; lia
structure SE where
  pieces : List Str
  items : List Str
  header : Str
  left : Str
def estep (st : SE) (n : Int) : SE :=
  let b : Str := ⟨#[brkC n]⟩
  let c : Str := if st.items ≠ [] then commaT.getD (cm3 n) ⟨#[]⟩ else Str.ofString ""
  ⟨st.pieces ++ [b ++ written.getD (tl n) ⟨#[]⟩], st.items ++ [b ++ readT.getD (tl n) ⟨#[]⟩], st.header ++ c ++ b ++ written.getD (tl n) ⟨#[]⟩, st.left ++ c ++ b ++ bareT.getD (tl n) ⟨#[]⟩⟩
def est (ns : List Int) : SE := ns.foldl estep ⟨[], [], Str.ofString "", Str.ofString ""⟩
def isBr (u : Str) : Bool := decide (u = ⟨#[40]⟩) || decide (u = ⟨#[41]⟩)
def told (x : Str) : List Str := ((gen x.cps.toList 0 false).map (·.2)).filter isBr
def firsts (ps : List Str) : List Str := ps.map fun p => ⟨(p.cps.toList.take 1).toArray⟩
def sentP (ns : List Int) : List Str :=
  let st := est ns
  if (parseL st.header).map Txt.strip = st.items ∧ stripP st.header = st.left ∧ told (stripP st.header) = firsts st.pieces then st.pieces else []
theorem bnd6 (l : List Str) (h : ∀ x ∈ l, x.length ≤ 8) (i : Nat) : (l.getD i ⟨#[]⟩).length ≤ 8 := by
  rw [List.getD_eq_getElem?_getD]
  cases e : l[i]? with
  | none => exact Nat.zero_le _
  | some x => exact h x (List.mem_of_getElem? e)
theorem b_w (i : Nat) : (written.getD i ⟨#[]⟩).length ≤ 8 := bnd6 _ (by decide) i
theorem b_r (i : Nat) : (readT.getD i ⟨#[]⟩).length ≤ 8 := bnd6 _ (by decide) i
theorem b_b (i : Nat) : (bareT.getD i ⟨#[]⟩).length ≤ 8 := bnd6 _ (by decide) i
theorem b_c (i : Nat) : (commaT.getD i ⟨#[]⟩).length ≤ 8 := bnd6 _ (by decide) i
theorem estep_bound (st : SE) (n : Int) : (estep st n).header.length ≤ st.header.length + 17 ∧ (estep st n).left.length ≤ st.left.length + 17 ∧ (estep st n).pieces.length = st.pieces.length + 1 ∧ (estep st n).items.length = st.items.length + 1 := by
  have h1 := b_w (tl n)
  have h2 := b_b (tl n)
  have h3 := b_c (cm3 n)
  have h0 : (⟨#[brkC n]⟩ : Str).length = 1 := rfl
  have h00 : (Str.ofString "").length = 0 := rfl
  unfold estep
  dsimp only
  refine ⟨?_, ?_, by simp, by simp⟩
  · rw [strLen_append, strLen_append, strLen_append]
    split <;> lia
  · rw [strLen_append, strLen_append, strLen_append]
    split <;> lia
section
variable {w : World} {A : Around} {E : Value → Shared → Prop} {s : Shared}
theorem est_bound : ∀ (ns : List Int) (st : SE), (ns.foldl estep st).header.length ≤ st.header.length + 17 * ns.length ∧ (ns.foldl estep st).left.length ≤ st.left.length + 17 * ns.length ∧ (ns.foldl estep st).pieces.length = st.pieces.length + ns.length ∧ (ns.foldl estep st).items.length = st.items.length + ns.length
  | [], st => by simp
  | n :: ns, st => by
    have a := est_bound ns (estep st n)
    have b := estep_bound st n
    simp only [List.foldl_cons, List.length_cons]
    lia
theorem Strs.at' {vs : List Value} {xs : List Str} (h : Strs vs xs) {i : Nat} {v : Value} (e : vs[i]? = some v) : ∃ t, v = .str (xs.getD i ⟨#[]⟩) t := by
  obtain ⟨x, hx, hs⟩ := h.at e
  obtain ⟨t, rfl⟩ := sv_eq hs
  exact ⟨t, by rw [List.getD_eq_getElem?_getD, hx]; rfl⟩
/-- the state of sent's loop after i numbers -/
inductive NInv (s : Shared) (env : Env) (cm : Str → Option Value) (ns : List Int) (W R B P I : Addr) (i : Nat) (s' : Shared) : Prop
  | mk (h : Heap) (tk : Nat) (m : Str → Option Value) (ps is ws rs bs : List Value) (t1 t2 : Tok) (e : s' = { s with heap := h, toks := tk }) (bd : Bd [] s.heap env m cm h) (e1 : m "written" = some (.ref W)) (e2 : m "read" = some (.ref R)) (e3 : m "bare" = some (.ref B)) (e4 : m "pieces" = some (.ref P)) (e5 : m "items" = some (.ref I))
    (e6 : m "header" = some (.str (est (ns.take i)).header t1)) (e7 : m "left" = some (.str (est (ns.take i)).left t2))
    (l1 : h.PlainList W (List.toArray ws)) (l2 : h.PlainList R (List.toArray rs)) (l3 : h.PlainList B (List.toArray bs)) (l4 : h.PlainList P (List.toArray ps)) (l5 : h.PlainList I (List.toArray is))
    (s1 : Strs ws written) (s2 : Strs rs readT) (s3 : Strs bs bareT) (s4 : Strs ps (est (ns.take i)).pieces) (s5 : Strs is (est (ns.take i)).items) : NInv s env cm ns W R B P I i s'
theorem Bd.anyT {X : List Addr} {h₀ h : Heap} {env : Env} {m cm : Str → Option Value} {x : Str} {v : Int} {t : Tok} (B : Bd X h₀ env (upd m x (.int v t)) cm h) : ∃ t', Bd X h₀ env (upd m x (.int v t')) cm h := ⟨t, B⟩
abbrev sentBody : List Stmt := (pickFor (pickDef 11) 7).2
theorem sent_turn {fd : FuncData} {o : Obj} {L : Addr} {cm : Str → Option Value} {ns : List Int} {Wa Ra Ta Pa Ia : Addr} {i : Nat} {n : Int} {tn : Tok} {h : Heap} {tk : Nat} {m : Str → Option Value} {ps is ws rs bs : List Value} {t1 t2 : Tok} {Q : Flow → Shared → Prop}
    (ho : (KF w).lookup 99 = some o) (hd : o.data = .func fd) (hu : A.units < cLine)
    (hn : ns[i]? = some n) (hl : ns.length ≤ 8) (l1 : Wa < Ra) (l2 : Ra < Ta) (l3 : Ta < Pa) (l4 : Pa < Ia)
    (nP0 : s.heap.get? Pa = none) (nI0 : s.heap.get? Ia = none)
    (e0 : m "number" = some (.int n tn)) (e1 : m "written" = some (.ref Wa)) (e2 : m "read" = some (.ref Ra)) (e3 : m "bare" = some (.ref Ta)) (e4 : m "pieces" = some (.ref Pa)) (e5 : m "items" = some (.ref Ia))
    (e6 : m "header" = some (.str (est (ns.take i)).header t1)) (e7 : m "left" = some (.str (est (ns.take i)).left t2))
    (hW : h.PlainList Wa ws.toArray) (hR : h.PlainList Ra rs.toArray) (hT : h.PlainList Ta bs.toArray) (hP : h.PlainList Pa ps.toArray) (hI : h.PlainList Ia is.toArray)
    (sW : Strs ws written) (sR : Strs rs readT) (sT : Strs bs bareT) (sP : Strs ps (est (ns.take i)).pieces) (sI : Strs is (est (ns.take i)).items) :
    let env := callEnvC fd L 99
    Wa ∉ own env → Ra ∉ own env → Ta ∉ own env → Pa ∉ own env → Ia ∉ own env → Bd [] s.heap env m cm h →
    (∀ s', NInv s env cm ns Wa Ra Ta Pa Ia (i + 1) s' → Kp (own env ++ [Pa, Ia]) h s'.heap → Q .next s') →
    wpAny (model pr w) A (execs sentBody env) Q E { s with heap := h, toks := tk } := by
  cases ho
  cases hd
  intro env nW nR nT nP nI B hQ
  have es : est (ns.take (i + 1)) = estep (est (ns.take i)) n := by
    unfold est
    rw [List.take_add_one, hn, List.foldl_append]; rfl
  generalize hst : est (ns.take i) = st at *
  have bd := est_bound (ns.take i) ⟨[], [], Str.ofString "", Str.ofString ""⟩
  rw [show (ns.take i).foldl estep ⟨[], [], Str.ofString "", Str.ofString ""⟩ = st from hst] at bd
  have hlt : (ns.take i).length ≤ 8 := Nat.le_trans (List.length_take_le' _ _) hl
  have z0 : (Str.ofString "").length = 0 := rfl
  simp only [z0, List.length_nil, Nat.zero_add] at bd
  refine wpAny_execs_cons (wpAny_Assign_Name (SubS_ (wpAny_Constant_str (wpAny_BinOp (ldL B.ns (by ktr_rel) (wpAny_Constant_int (mod_int (by decide) ⟨_, _, _, _, rfl, rfl, ?_, ?_, by decide, fun c t' tk' hc => B.stL fun h₁ B₁ k₁ => ?_⟩)))))))
  · have := Int.fmod_nonneg_of_pos n (b := 2) (by decide); show -(2 : Int) ≤ _; lia
  · have := Int.fmod_lt_of_pos n (b := 2) (by decide); exact this
  have hc' : c = brkC n := by
    have h1 := Int.fmod_nonneg_of_pos n (b := 2) (by decide)
    have h2 := Int.fmod_lt_of_pos n (b := 2) (by decide)
    rw [if_neg (by lia)] at hc
    unfold brkC
    rcases (show n.fmod 2 = 0 ∨ n.fmod 2 = 1 by lia) with e | e
    · rw [e] at hc ⊢; exact Option.some.inj (hc.symm.trans (show _ = some 40 from rfl))
    · rw [e] at hc ⊢; exact Option.some.inj (hc.symm.trans (show _ = some 41 from rfl))
  subst hc'
  (show wpAny _ _ (execs _ _) _ _ _; refine cut (P := fun st => wpAny _ _ (execs _ _) _ _ st) (h := h₁) (g := Shared.gens s) (d := Shared.drawn s) (o := Shared.os s) fun _ => ?_)
  refine wpAny_execs_cons (wpAny_Assign_Name (wpAny_BinOp (wpAny_BinOp (ldL B₁.ns (by ktr_rel) (wpAny_Constant_int (floordiv_int (by decide) (wpAny_Constant_int (mod_int (by decide) (B₁.stL fun h₂ B₂ k₂ => ?_)))))))))
  have e8 : (n.fdiv 2).fmod 6 = (tl n : Int) := by have := Int.fmod_nonneg_of_pos (n.fdiv 2) (b := 6) (by decide); unfold tl; lia
  rw [e8] at B₂
  (show wpAny _ _ (execs _ _) _ _ _; refine cut (P := fun st => wpAny _ _ (execs _ _) _ _ st) (h := h₂) (g := Shared.gens s) (d := Shared.drawn s) (o := Shared.os s) fun _ => ?_)
  have I2 := kpL (kpL hI k₁ nI) k₂ nI
  obtain ⟨cc, hcc⟩ : ∃ cc : Str, cc = if st.items ≠ [] then commaT.getD (cm3 n) ⟨#[]⟩ else Str.ofString "" := ⟨_, rfl⟩
  have ccl : cc.length ≤ 8 := by rw [hcc]; split; exact b_c _; decide
  obtain ⟨t9, B₂⟩ : ∃ t9, Bd [] s.heap env (upd (upd m "bracket" (.str ⟨#[brkC n]⟩ t')) "tail" (.int (tl n : Int) t9)) cm h₂ := ⟨_, B₂⟩
  refine wpAny_execs_cons (wpAny_mono (Q := fun f s' => f = .next ∧ ∃ h tk t, s' = { s with heap := h, toks := tk } ∧ Bd [] s.heap env (upd (upd (upd m "bracket" (.str ⟨#[brkC n]⟩ t')) "tail" (.int (tl n : Int) t9)) "comma" (.str cc t)) cm h ∧ Kp (own env) h₂ h) (wpAny_Assign_Name (wpAny_IfExp (wpAny_isTrue_Compare1 (ldL B₂.ns (by ktr_rel) (wpAny_List (wpAny_items_nil ⟨by decide, neStrs (us := []) (ys := []) (kpL I2 (Kp.push [] _ _) (by simp)) ⟨_, Heap.get?_push_size _ rfl⟩ sI rfl hu (wpAny_truthy_bool ?_)⟩)))))) (fun f s' hf => ?_) fun _ _ e => e)
  · have k3 : Kp [] h₂ (h₂.push { cls := .type "list", data := .seq [].toArray }) := Kp.push _ _ _
    generalize h₂.push { cls := .type "list", data := .seq [].toArray } = h₃ at k3 ⊢
    have B₃ := B₂.keeps k3
    by_cases hi : st.items = []
    · rw [if_neg (by simp [hi])]
      have ec : cc = Str.ofString "" := hcc.trans (if_neg (by simp [hi]))
      exact wpAny_Constant_str (B₃.stL fun h₄ B₄ k₄ => ⟨rfl, _, _, _, rfl, by rw [ec]; exact B₄, (k3.mono (by simp)).trans k₄⟩)
    · rw [if_pos (by simp [hi])]
      have ec : cc = commaT.getD (cm3 n) ⟨#[]⟩ := hcc.trans (if_pos hi)
      refine Sub1_ (wpAny_List (wpAny_items_cons (wpAny_Constant_str (wpAny_items_cons (wpAny_Constant_str (wpAny_items_cons (wpAny_Constant_str (wpAny_items_nil ⟨by show 3 ≤ sizeLine; decide, ?_⟩))))))))
      refine wpAny_BinOp (wpAny_BinOp (ldL (B₃.keeps (Kp.push [] h₃ _)).ns (by ktr_rel) (wpAny_Constant_int (floordiv_int (by decide) (wpAny_Constant_int (mod_int (by decide) ⟨_, _, _, _, rfl, rfl, ⟨_, Heap.get?_push_size _ rfl, rfl, _, rfl⟩, ?_, ?_, by show 3 ≤ sizeLine; decide, fun x hx => ?_⟩))))))
      · have := Int.fmod_nonneg_of_pos (n.fdiv 12) (b := 3) (by decide); show -(3 : Int) ≤ _; lia
      · have := Int.fmod_lt_of_pos (n.fdiv 12) (b := 3) (by decide); exact this
      obtain ⟨tx, rfl⟩ : ∃ tx, x = .str (commaT.getD (cm3 n) ⟨#[]⟩) tx := by
        have h0 := Int.fmod_nonneg_of_pos (n.fdiv 12) (b := 3) (by decide)
        have e9 : (n.fdiv 12).fmod 3 = (cm3 n : Int) := by unfold cm3; lia
        rw [if_neg (by lia), e9] at hx
        have := cm3_lt n
        generalize cm3 n = q at *
        rcases (show q = 0 ∨ q = 1 ∨ q = 2 by lia) with rfl | rfl | rfl <;> exact ⟨_, (Option.some.inj hx).symm⟩
      exact (B₃.keeps (Kp.push [] h₃ _)).stL fun h₅ B₅ k₅ => ⟨rfl, _, _, _, rfl, by rw [ec]; exact B₅, (k3.mono (by simp)).trans ((Kp.push _ _ _).trans k₅)⟩
  obtain ⟨rfl, h₃, tk₃, tc, rfl, B₃, k₃⟩ := hf
  have htl := tl_lt n
  have W3 := kpL (kpL (kpL hW k₁ nW) k₂ nW) k₃ nW
  have R3 := kpL (kpL (kpL hR k₁ nR) k₂ nR) k₃ nR
  have T3 := kpL (kpL (kpL hT k₁ nT) k₂ nT) k₃ nT
  have P3 := kpL (kpL (kpL hP k₁ nP) k₂ nP) k₃ nP
  have I3 := kpL I2 k₃ nI
  have k03 : Kp (own env) h h₃ := (k₁.trans k₂).trans k₃
  have lW : ws.length = 6 := sW.length
  have lR : rs.length = 6 := sR.length
  have lT : bs.length = 6 := sT.length
  have h0 : (⟨#[brkC n]⟩ : Str).length = 1 := rfl
  have bw := b_w (tl n)
  have br := b_r (tl n)
  have bb := b_b (tl n)
  have tab : ∀ {l : Addr} {us : List Value} {xs : List Str} {hh : Heap} {x : Value}, us.length = 6 → Strs us xs → us.toArray[(if (tl n : Int) < 0 then (tl n : Int) + us.toArray.size else (tl n : Int)).toNat]? = some x → ∃ t, x = .str (xs.getD (tl n) ⟨#[]⟩) t := fun hl hs e => hs.at' (by rw [if_neg (by lia)] at e; simpa using e)
  (show wpAny _ _ (execs _ _) _ _ _; refine cut (P := fun st => wpAny _ _ (execs _ _) _ _ st) (h := h₃) (g := Shared.gens s) (d := Shared.drawn s) (o := Shared.os s) fun _ => ?_)
  refine wpAny_execs_cons (Append_ (ldL B₃.ns (by ktr_rel) ⟨_, _, rfl, P3, wpAny_BinOp (ldL B₃.ns (by ktr_rel) (Sub1_ (ldL B₃.ns (by ktr_rel) (ldL B₃.ns (by ktr_rel) ⟨_, _, _, _, rfl, rfl, W3.isList, by lia, by rw [List.size_toArray, lW]; lia, by rw [List.size_toArray, lW]; decide, fun x hx => ?_⟩))))⟩))
  obtain ⟨tx, rfl⟩ := tab (l := Wa) (hh := h₃) lW sW hx
  refine add_str (fun t4 tk4 => ⟨_, P3, ?_, fun h₄ P4 k₄ => ?_⟩) (by rw [sizeLine_eq]; lia)
  · have := sP.length; rw [List.size_toArray, sizeLine_eq]; lia
  have B₄ := B₃.stay1 k₄ nP nP0
  have W4 := kpL W3 k₄ (notMem1 (Nat.ne_of_lt (Nat.lt_trans l1 (Nat.lt_trans l2 l3))))
  have R4 := kpL R3 k₄ (notMem1 (Nat.ne_of_lt (Nat.lt_trans l2 l3)))
  have T4 := kpL T3 k₄ (notMem1 (Nat.ne_of_lt l3))
  have I4 := kpL I3 k₄ (notMem1 (Nat.ne_of_gt l4))
  (show wpAny _ _ (execs _ _) _ _ _; refine cut (P := fun st => wpAny _ _ (execs _ _) _ _ st) (h := h₄) (g := Shared.gens s) (d := Shared.drawn s) (o := Shared.os s) fun _ => ?_)
  refine wpAny_execs_cons (wpAny_Assign_Name (wpAny_BinOp (wpAny_BinOp (wpAny_BinOp (ldL B₄.ns (by ktr_rel) (ldL B₄.ns (by ktr_rel) (add_str (fun t5 tk5 => ?_) (by rw [sizeLine_eq]; lia))))))))
  refine ldL B₄.ns (by ktr_rel) (add_str (fun t6 tk6 => ?_) (by rw [strLen_append, sizeLine_eq]; lia))
  refine Sub1_ (ldL B₄.ns (by ktr_rel) (ldL B₄.ns (by ktr_rel) ⟨_, _, _, _, rfl, rfl, W4.isList, by lia, by rw [List.size_toArray, lW]; lia, by rw [List.size_toArray, lW]; decide, fun x hx => ?_⟩))
  obtain ⟨tx2, rfl⟩ := tab (l := Wa) (hh := h₄) lW sW hx
  refine add_str (fun t7 tk7 => B₄.stL fun h₅ B₅ k₅ => ?_) (by rw [strLen_append, strLen_append, sizeLine_eq]; lia)
  have W5 := kpL W4 k₅ nW
  have R5 := kpL R4 k₅ nR
  have T5 := kpL T4 k₅ nT
  have P5 := kpL P4 k₅ nP
  have I5 := kpL I4 k₅ nI
  (show wpAny _ _ (execs _ _) _ _ _; refine cut (P := fun st => wpAny _ _ (execs _ _) _ _ st) (h := h₅) (g := Shared.gens s) (d := Shared.drawn s) (o := Shared.os s) fun _ => ?_)
  refine wpAny_execs_cons (Append_ (ldL B₅.ns (by ktr_rel) ⟨_, _, rfl, I5, wpAny_BinOp (ldL B₅.ns (by ktr_rel) (Sub1_ (ldL B₅.ns (by ktr_rel) (ldL B₅.ns (by ktr_rel) ⟨_, _, _, _, rfl, rfl, R5.isList, by lia, by rw [List.size_toArray, lR]; lia, by rw [List.size_toArray, lR]; decide, fun x hx => ?_⟩))))⟩))
  obtain ⟨tx3, rfl⟩ := tab (l := Ra) (hh := h₅) lR sR hx
  refine add_str (fun t8 tk8 => ⟨_, I5, ?_, fun h₆ I6 k₆ => ?_⟩) (by rw [sizeLine_eq]; lia)
  · have := sI.length; rw [List.size_toArray, sizeLine_eq]; lia
  have B₆ := B₅.stay1 k₆ nI nI0
  have W6 := kpL W5 k₆ (notMem1 (Nat.ne_of_lt (Nat.lt_trans (Nat.lt_trans l1 (Nat.lt_trans l2 l3)) l4)))
  have R6 := kpL R5 k₆ (notMem1 (Nat.ne_of_lt (Nat.lt_trans (Nat.lt_trans l2 l3) l4)))
  have T6 := kpL T5 k₆ (notMem1 (Nat.ne_of_lt (Nat.lt_trans l3 l4)))
  have P6 := kpL P5 k₆ (notMem1 (Nat.ne_of_lt l4))
  (show wpAny _ _ (execs _ _) _ _ _; refine cut (P := fun st => wpAny _ _ (execs _ _) _ _ st) (h := h₆) (g := Shared.gens s) (d := Shared.drawn s) (o := Shared.os s) fun _ => ?_)
  refine wpAny_execs_cons (wpAny_Assign_Name (wpAny_BinOp (wpAny_BinOp (wpAny_BinOp (ldL B₆.ns (by ktr_rel) (ldL B₆.ns (by ktr_rel) (add_str (fun t5 tk5 => ?_) (by rw [sizeLine_eq]; lia))))))))
  refine ldL B₆.ns (by ktr_rel) (add_str (fun t6 tk6 => ?_) (by rw [strLen_append, sizeLine_eq]; lia))
  refine Sub1_ (ldL B₆.ns (by ktr_rel) (ldL B₆.ns (by ktr_rel) ⟨_, _, _, _, rfl, rfl, T6.isList, by lia, by rw [List.size_toArray, lT]; lia, by rw [List.size_toArray, lT]; decide, fun x hx => ?_⟩))
  obtain ⟨tx4, rfl⟩ := tab (l := Ta) (hh := h₆) lT sT hx
  refine add_str (fun t7 tk7 => B₆.stL fun h₇ B₇ k₇ => wpAny_execs_nil ?_) (by rw [strLen_append, strLen_append, sizeLine_eq]; lia)
  have up : ∀ {h h' : Heap}, Kp (own env) h h' → Kp (own env ++ [Pa, Ia]) h h' := fun k => k.mono fun b hb => List.mem_append_left _ hb
  have upP : ∀ {h h' : Heap}, Kp [Pa] h h' → Kp (own env ++ [Pa, Ia]) h h' := fun k => k.mono fun b hb => by rw [List.mem_singleton.mp hb]; simp
  have upI : ∀ {h h' : Heap}, Kp [Ia] h h' → Kp (own env ++ [Pa, Ia]) h h' := fun k => k.mono fun b hb => by rw [List.mem_singleton.mp hb]; simp
  have ee := es
  unfold estep at ee
  dsimp only at ee
  rw [← hcc] at ee
  refine hQ _ ⟨h₇, _, _, ps ++ [_], is ++ [_], ws, rs, bs, _, _, rfl, B₇, by ktr_rel, by ktr_rel, by ktr_rel, by ktr_rel, by ktr_rel, by rw [ee]; ktr_rel, by rw [ee]; ktr_rel, kpL W6 k₇ nW, kpL R6 k₇ nR, kpL T6 k₇ nT, by simpa using kpL P6 k₇ nP, by simpa using kpL I6 k₇ nI, sW, sR, sT, by rw [ee]; exact sP.snoc _ _, by rw [ee]; exact sI.snoc _ _⟩ (((((up k03).trans (upP k₄)).trans (up k₅)).trans (upI k₆)).trans (up k₇))
end
end Mine
set_option maxHeartbeats 8000000
namespace Mine
local macro_rules | `(tactic| ktr_rel) => `(tactic| first | assumption | exact upd_eq | (refine upd_ne ?_ (by decide); ktr_rel))
section
variable {w : World} {A : Around} {E : Value → Shared → Prop} {s : Shared} {env : Env} {R : Result → Shared → Prop}
theorem compLoopG {elt target iter : Expr} {ifs : List Expr} {scope : Scope} {pos : Pos} {it acc : Value} (I : Nat → Shared → Prop)
    (turn : ∀ n s, I n s → wpAny (model pr w) A (pyNext it) (fun r s₁ => match r with
      | none => R (.ok .next) s₁
      | some v => wpAny (model pr w) A (letOwnedTupleGo target it v) (fun _ s₁ => wpAny (model pr w) A (assign target env v) (fun _ s₂ =>
          wpAny (model pr w) A (testsOf ifs env) (fun ok s₃ =>
            if ok = true then wpAny (model pr w) A (eval elt env) (fun x s₄ =>
              wpAny (model pr w) A (call (.builtin "list.append") [acc, x]) (fun _ s₅ => ∃ m, m < n ∧ I m s₅) (notedBy (model pr w) A env fun e s' => R (.error e) s') s₄) (notedBy (model pr w) A env fun e s' => R (.error e) s') s₃
            else ∃ m, m < n ∧ I m s₃) (notedBy (model pr w) A env fun e s' => R (.error e) s') s₂) (notedBy (model pr w) A env fun e s' => R (.error e) s') s₁) (notedBy (model pr w) A env fun e s' => R (.error e) s') s₁) (notedBy (model pr w) A env fun e s' => R (.error e) s') s)
    (n : Nat) (h : I n s) : codeAny (model pr w) A (.compLoop (.ListComp elt [⟨target, iter, ifs, 0⟩] scope pos) 0 it acc env) R s := by
  refine codeAny_loop rfl I (fun n s hI => ?_) n h
  show wpAny _ A ((compTurn (.ListComp elt [⟨target, iter, ifs, 0⟩] scope pos) 0 it acc env).onRaise (fun x => do noteFrame x env; theTreesLotGoes x)) _ _ s
  refine wpAny_noted ?_
  rw [compTurn_list]
  refine wpAny_bind (wpAny_standAt (wpAny_bind (wpAny_mono (turn n s hI) (fun r s₁ h₁ => ?_) fun _ _ h' => h')))
  cases r with
  | none => exact wpAny_pure h₁
  | some v =>
    refine wpAny_bind (wpAny_mono h₁ (fun _ s₁' h₁' => ?_) fun _ _ h' => h')
    refine wpAny_bind (wpAny_mono h₁' (fun _ s₂ h₂ => wpAny_bind (wpAny_mono h₂ (fun ok s₃ h₃ => ?_) fun _ _ h' => h')) fun _ _ h' => h')
    cases ok with
    | false => exact wpAny_pure ⟨rfl, h₃⟩
    | true =>
      exact wpAny_bind (wpAny_bind (wpAny_mono h₃ (fun x s₄ h₄ => wpAny_bind (wpAny_mono h₄ (fun _ s₅ h₅ => wpAny_pure (wpAny_pure ⟨rfl, h₅⟩)) fun _ _ h' => h')) fun _ _ h' => h'))
/-- the comprehension over the generator, its loop -/
theorem genComp {elt iter : Expr} {n1 n2 : Str} {p1 p2 pt : Pos} {x1} {ifs : List Expr} {scope : Scope} {cl : List (Str × Addr)} {pos : Pos} {G : Addr} {g : Nat} {hB : Heap} {ys₀ : List (Nat × Str)} {p : Str → Bool} {RR : Value → Addr → Result → Shared → Prop}
    (hA : A.handled = none) (hroom : A.depth < recursionLimit) (T : Tp w s.heap) (kB : Kp [] hB s.heap) (szB : hB.objs.size ≤ s.heap.objs.size) (TB : Tp w hB) (iG : s.heap.IsGen G g) (b0 : AllBare s.gens) (hsz : ys₀.length ≤ sizeLine)
    (g0 : ∀ Z : List Addr, (∀ b ∈ Z, b = G ∨ s.heap.objs.size ≤ b) → GenAt w A.in1 hB Z g ys₀ s)
    (hcell : ∀ y ∈ scope.names, y.2 ≠ .cell) (hkind : scope.kind = .function) (hx1 : scope.names.lookup n1 = some .local) (hx2 : scope.names.lookup n2 = some .local) (hne : (n1 == n2) = false)
    (tests : ∀ C u tu (s₃ : Shared) m₃ E', s₃.heap.Ns C m₃ → m₃ n2 = some (.str u tu) → Tp w s₃.heap → wpAny (model pr w) A (testsOf ifs (compEnvC scope cl C env)) (fun ok s₄ => ok = p u ∧ Keeps s₃ s₄) E' s₃)
    (elt' : ∀ C u tu (s₃ : Shared) m₃ E', s₃.heap.Ns C m₃ → m₃ n2 = some (.str u tu) → Tp w s₃.heap → wpAny (model pr w) A (eval elt (compEnvC scope cl C env)) (fun y s₄ => y = .str u tu ∧ Keeps s₃ s₄) E' s₃)
    (hRR : ∀ D C h' tk gs m' us, D = s.heap.objs.size → C = s.heap.objs.size + 1 → h'.Ns C m' → h'.PlainList D (List.toArray us) → Strs us ((ys₀.map (·.2)).filter p) → Kp [] hB h' → AllBare gs →
      RR (.ref D) C (.ok .next) { s with heap := h', toks := tk, gens := gs }) :
    wpAny (model pr w) A (newList []) (fun acc s₃ => wpAny (model pr w) A (newFunctionEnv scope env.globals cl [] env.qual none .none (some env)) (fun cenv s₄ =>
      codeAny (model pr w) A (.compStart (.ListComp elt [⟨.Tuple [.Name n1 p1, .Name n2 p2] x1 pt, iter, ifs, 0⟩] scope pos) 0 (.ref G) acc { cenv with scope := relabel scope env }) (RR acc cenv.locals) s₄) E s₃) E s := by
  refine wpAny_newObj_type (wpAny_newFunctionEnv hcell (by intro y hy; simp at hy) (fun h₁ hns₁ hsb₁ => ?_) hkind)
  dsimp only at hns₁ hsb₁ ⊢
  generalize hH2 : s.heap.push { cls := .type "list", dict := none, data := .seq ([] : List Value).toArray } = H2 at hns₁ hsb₁ ⊢
  have hC : H2.objs.size = s.heap.objs.size + 1 := by rw [← hH2, Heap.size_push]
  have old : Kp [] s.heap h₁ := fun b o _ e => hsb₁.extBut b o (by rw [hC]; exact Nat.ne_of_lt (Nat.lt_succ_of_lt (Heap.lt_size e))) (Heap.get?_push_of_some _ (hH2 ▸ Heap.get?_push_of_some _ e))
  have hacc : h₁.PlainList s.heap.objs.size #[] := ⟨_, hsb₁.extBut _ _ (by rw [hC]; exact Nat.ne_of_lt (Nat.lt_succ_self _)) (Heap.get?_push_of_some _ (hH2 ▸ Heap.get?_push_size _ rfl))⟩
  have hs1 : h₁.objs.size = s.heap.objs.size + 2 := by rw [hsb₁.1, Heap.size_push, hC]
  rw [hC] at hns₁ ⊢
  clear hsb₁ hC hH2
  have lG : G < s.heap.objs.size := by obtain ⟨o, _, _, e, _⟩ := iG; exact Heap.lt_size e
  let Z : List Addr := [G, s.heap.objs.size, s.heap.objs.size + 1]
  have hZ0 : ∀ b ∈ Z, b = G ∨ s.heap.objs.size ≤ b := fun b hb => by
    rcases List.mem_cons.mp hb with rfl | hb
    · exact .inl rfl
    · rcases List.mem_cons.mp hb with rfl | hb
      · exact .inr (Nat.le_refl _)
      · rw [List.mem_singleton.mp hb]; exact .inr (Nat.le_succ _)
  have loop : ∀ s₃ : Shared, s₃ = { s with heap := h₁, toks := s.toks + ([] : List (Str × Value)).length } →
      codeAny (model pr w) A (.compLoop (.ListComp elt [⟨.Tuple [.Name n1 p1, .Name n2 p2] x1 pt, iter, ifs, 0⟩] scope pos) 0 (.ref G) (.ref s.heap.objs.size) (compEnvC scope cl (s.heap.objs.size + 1) env))
        (RR (.ref s.heap.objs.size) (s.heap.objs.size + 1)) s₃ := by
    rintro s₃ rfl
    refine compLoopG (fun k s' => ∃ ys h tk gs m us dn, k = ys.length + 1 ∧ s' = { s with heap := h, toks := tk, gens := gs } ∧ AllBare gs ∧ GenAt w A.in1 hB Z g ys s' ∧ h.IsGen G g ∧ h.Ns (s.heap.objs.size + 1) m ∧ h.PlainList s.heap.objs.size (List.toArray us) ∧ Strs us (((dn : List (Nat × Str)).map (·.2)).filter p) ∧ dn ++ ys = ys₀ ∧ Kp [] hB h)
      ?_ (ys₀.length + 1) ⟨ys₀, h₁, _, _, _, [], [], rfl, rfl, b0, (g0 Z hZ0).stay (fun b o _ e => old.all _ _ e) rfl, let ⟨o, a, b, e, r⟩ := iG; ⟨o, a, b, old.all _ _ e, r⟩, hns₁, hacc, Strs.nil, rfl, kB.trans old⟩
    rintro k s' ⟨ys, h, tk, gs, m, us, dn, rfl, rfl, hb, hg, iG', ns', ac', hS, hdn, kB'⟩
    have hlen : dn.length + ys.length = ys₀.length := by rw [← hdn, List.length_append]
    have hsz' : s.heap.objs.size + 2 ≤ h.objs.size := ns'.lt
    have z1 : G < h.objs.size := Nat.lt_of_lt_of_le lG (Nat.le_trans (Nat.le_add_right _ 2) hsz')
    have z2 : s.heap.objs.size < h.objs.size := Nat.lt_of_lt_of_le (Nat.lt_add_of_pos_right (by decide)) hsz'
    have z3 : s.heap.objs.size + 1 < h.objs.size := hsz'
    have z0 : hB.objs.size ≤ h.objs.size := Nat.le_trans szB (Nat.le_of_lt z2)
    have tp : ∀ {h : Heap}, Kp [] hB h → Tp w h := fun k => TB.kp k Far.nil
    have mZ1 : G ∈ Z := .head _
    have mZ2 : s.heap.objs.size ∈ Z := .tail _ (.head _)
    have mZ3 : s.heap.objs.size + 1 ∈ Z := .tail _ (.tail _ (.head _))
    refine pyNextG hA (tp kB') hroom iG' hg (fun b hb => ?_) z0 (fun hy h' tk' Y hY kY => ?_) (fun pp u r hy T' h' tk' gs' Y tp' tu hY kY hT hbr hG' => ?_)
    · rcases List.mem_cons.mp hb with rfl | hb
      · exact z1
      · rcases List.mem_cons.mp hb with rfl | hb
        · exact z2
        · rw [List.mem_singleton.mp hb]; exact z3
    · subst hy
      rw [List.append_nil] at hdn
      subst hdn
      exact hRR _ _ h' tk' _ m us rfl rfl (ns'.at' fun o e => kY _ o (fun q => (hY _ q).1 mZ3) e) (kpL ac' kY (fun q => (hY _ q).1 mZ2)) hS (fun b o n e => kY b o (fun q => by rw [(hY _ q).2] at e; cases e) (kB' b o n e)) (bare_set hb rfl)
    · subst hy
      have kB1 : Kp [] hB h' := fun b o n e => kY b o (fun q => by rw [(hY _ q).2] at e; cases e) (kB' b o n e)
      have iG1 : h'.IsGen G g := let ⟨o, a, b, e, r⟩ := iG'; ⟨o, a, b, kY _ _ (fun q => (hY _ q).1 mZ1) e, r⟩
      refine go_gen iG1 (wpAny_assign_Tuple hA hT rfl rfl fun h₃ x₃ => ?_)
      have keep₃ : Kp [] h' h₃ := fun b o _ e => x₃ b o (Nat.ne_of_lt (Heap.lt_size e)) e
      have ns3 : h₃.Ns (s.heap.objs.size + 1) m := (ns'.at' fun o e => kY _ o (fun q => (hY _ q).1 mZ3) e).keeps keep₃.all
      show wpAny _ _ (do holding [.str u tu] (assign (.Name n1 _) _ (.int pp tp')); do holding [] (assign (.Name n2 _) _ (.str u tu)); pure ()) _ _ _
      refine wpAny_bind (wpAny_holding (wpAny_assign_Name (wpAny_storeName_local (lookup_relabel_local hx1) ns3 (fun h₄ ns4 hs4 => ?_) (by simp [compEnvC, relabel, hkind]))))
      refine wpAny_bind (wpAny_holding (wpAny_assign_Name (wpAny_storeName_local (lookup_relabel_local hx2) ns4 (fun h₅ ns5 hs5 => wpAny_pure ?_) (by simp [compEnvC, relabel, hkind]))))
      have k35 : Kp [s.heap.objs.size + 1] h' h₅ := ((keep₃.mono (by simp)).trans (Kp.same hs4)).trans (Kp.same hs5)
      have nB : ∀ b o, hB.get? b = some o → b ∉ [s.heap.objs.size + 1] := fun b o e q => absurd (Nat.lt_of_lt_of_le (Heap.lt_size e) szB) (by rw [List.mem_singleton.mp q]; exact Nat.not_lt.mpr (Nat.le_succ _))
      have kB5 : Kp [] hB h₅ := fun b o n e => k35 b o (nB b o e) (kB1 b o n e)
      have ac5 : h₅.PlainList s.heap.objs.size us.toArray := kpL (kpL ac' kY (fun q => (hY _ q).1 mZ2)) k35 (notMem1 (Nat.ne_of_lt (Nat.lt_succ_self _)))
      have iG5 : h₅.IsGen G g := let ⟨o, a, b, e, r⟩ := iG1; ⟨o, a, b, k35 _ _ (notMem1 (Nat.ne_of_lt (Nat.lt_succ_of_lt lG))) e, r⟩
      have hdn' : (dn ++ [(pp, u)]) ++ r = ys₀ := by rw [← hdn]; simp
      have G5 : ∀ {h₆ : Heap} {tk₆ : Nat}, Kp Z h₅ h₆ → GenAt w A.in1 hB Z g r { s with heap := h₆, toks := tk₆, gens := gs.setIfInBounds g gs' } := fun {h₆ tk₆} k => hG'.stay (fun b o n e => k b o n (k35 b o (fun q => n (by rw [List.mem_singleton.mp q]; exact mZ3)) e)) rfl
      refine wpAny_mono (tests _ u tu _ _ _ ns5 (by simp) (tp kB5)) (fun ok s₆ h₆ => ?_) fun _ _ e => e
      obtain ⟨rfl, h₆, tk₆, rfl, k6⟩ := h₆
      have kk6 : Kp [] h₅ h₆ := Kp.of k6
      have ns6 := ns5.keeps k6
      have ac6 := kpL ac5 kk6 (by simp)
      have iG6 : h₆.IsGen G g := iG5.keeps k6
      cases hp : p u with
      | false =>
        rw [if_neg (by simp)]
        exact ⟨r.length + 1, by simp, r, h₆, tk₆, _, _, us, dn ++ [(pp, u)], rfl, rfl, bare_set hb hbr, G5 (kk6.mono (by simp)), iG6, ns6, ac6, by simpa [hp] using hS, hdn', kB5.trans kk6⟩
      | true =>
        rw [if_pos rfl]
        refine wpAny_mono (elt' _ u tu _ _ _ ns6 (by simp) (tp (kB5.trans kk6))) (fun y s₇ h₇ => ?_) fun _ _ e => e
        obtain ⟨rfl, h₇, tk₇, rfl, k7⟩ := h₇
        have kk7 : Kp [] h₆ h₇ := Kp.of k7
        have hus : us.toArray.size ≤ sizeLine := by
          have e1 := hS.length
          have e2 := List.length_filter_le p (dn.map (·.2))
          rw [List.length_map] at e2
          rw [List.size_toArray]; omega
        refine wpAny_list_append_plain (hsz := hus) (kpL ac6 kk7 (by simp)) fun h₈ hl₈ hs₈ => ?_
        have k8 : Kp [s.heap.objs.size] h₇ h₈ := Kp.same hs₈
        have k58 : Kp [s.heap.objs.size] h₅ h₈ := ((kk6.trans kk7).mono (by simp)).trans k8
        refine ⟨r.length + 1, by simp, r, h₈, tk₇, _, _, us ++ [.str u tu], dn ++ [(pp, u)], rfl, rfl, bare_set hb hbr, G5 (k58.mono fun b q => by rw [List.mem_singleton.mp q]; exact mZ2), ?_, (ns6.keeps k7).sameBut hs₈ (Nat.ne_of_gt (Nat.lt_succ_self _)), by simpa using hl₈, ?_, hdn', fun b o n e => k58 b o (fun q => absurd (Nat.lt_of_lt_of_le (Heap.lt_size e) szB) (by rw [List.mem_singleton.mp q]; exact Nat.lt_irrefl _)) (kB5 b o n e)⟩
        · obtain ⟨o, a, b, e, r⟩ := iG5
          exact ⟨o, a, b, k58 _ _ (notMem1 (Nat.ne_of_lt lG)) e, r⟩
        · rw [List.map_append, List.filter_append]
          simpa [hp] using hS.snoc u tu
  exact codeAny_compStart_list (loop _ rfl) (wpAny_pyIter_gen (let ⟨o, a, b, e, r⟩ := iG; ⟨o, a, b, old.all _ _ e, r⟩) (loop _ rfl))
theorem GenA_ {h₀ : Heap} {m cm : Str → Option Value} {elt iter : Expr} {n1 n2 y : Str} {p1 p2 pt py : Pos} {x1} {ifs : List Expr} {scope : Scope} {cl : List (Str × Addr)} {pos spos : Pos} {p : Str → Bool} {Q : Flow → Shared → Prop}
    (hA : A.handled = none) (hroom : A.depth < recursionLimit) (B : Bd [] h₀ env m cm s.heap) (TB : Tp w s.heap) {ys₀ : List (Nat × Str)} (hsz : ys₀.length ≤ sizeLine)
    (h : wpAny (model pr w) A (eval iter env) (fun xv s₁ => ∃ G g h₁ tk₁ gs₁, s₁ = { s with heap := h₁, toks := tk₁, gens := gs₁ } ∧ xv = .ref G ∧ Kp [] s.heap h₁ ∧ s.heap.objs.size ≤ h₁.objs.size ∧ h₁.IsGen G g ∧ AllBare gs₁ ∧
      (∀ Z : List Addr, (∀ b ∈ Z, b = G ∨ h₁.objs.size ≤ b) → GenAt w A.in1 s.heap Z g ys₀ s₁)) E s)
    (tests : ∀ C u tu (s₃ : Shared) m₃ E', s₃.heap.Ns C m₃ → m₃ n2 = some (.str u tu) → Tp w s₃.heap → wpAny (model pr w) A (testsOf ifs (compEnvC scope cl C env)) (fun ok s₄ => ok = p u ∧ Keeps s₃ s₄) E' s₃)
    (elt' : ∀ C u tu (s₃ : Shared) m₃ E', s₃.heap.Ns C m₃ → m₃ n2 = some (.str u tu) → Tp w s₃.heap → wpAny (model pr w) A (eval elt (compEnvC scope cl C env)) (fun y s₄ => y = .str u tu ∧ Keeps s₃ s₄) E' s₃)
    (hQ : ∀ D h' tk gs us, h'.PlainList D (List.toArray us) → Strs us ((ys₀.map (·.2)).filter p) → D ∉ own env → s.heap.get? D = none → Bd [] h₀ env (upd m y (.ref D)) cm h' → Kp (own env) s.heap h' → AllBare gs → Q .next { s with heap := h', toks := tk, gens := gs })
    (hsw : swapsWith (.ListComp elt [⟨.Tuple [.Name n1 p1, .Name n2 p2] x1 pt, iter, ifs, 0⟩] scope pos) (some (.Name y py)) spos.line env = pure true := by rfl)
    (hclos : closureFor scope env = pure cl := by rfl) (hcell : ∀ y ∈ scope.names, y.2 ≠ .cell := by decide) (hkind : scope.kind = .function := by rfl)
    (hnames : ∀ y ∈ scope.names, y.2 = .local → scope.names.lookup y.1 = some .local := by decide) (hx1 : scope.names.lookup n1 = some .local := by rfl) (hx2 : scope.names.lookup n2 = some .local := by rfl) (hne : (n1 == n2) = false := by decide)
    (hs : ∀ x, foldedSetIterable iter env x = pure x := by intro _; rfl) (hk : env.scope.kind = .function := by rfl) (hy : env.kindOf y = some .local := by rfl) :
    wpAny (model pr w) A (exec (.Assign [.Name y py] (.ListComp elt [⟨.Tuple [.Name n1 p1, .Name n2 p2] x1 pt, iter, ifs, 0⟩] scope pos) spos) env) Q E s := by
  rw [exec_Assign_Name_used _ _ _ _ hsw]
  refine wpAny_bind (wpAny_standAt (wpAny_bind ?_))
  show wpAny _ A (do let _ ← comprehension (.ListComp elt [⟨.Tuple [.Name n1 p1, .Name n2 p2] x1 pt, iter, ifs, 0⟩] scope pos) scope env _ (newList []) false (eval iter env) (some (assign (.Name y py) env))) _ _ s
  refine wpAny_bind (wpAny_mono (wpAny_comprehension_free (use := some (assign (.Name y py) env)) (Q := fun _ s' => Q .next s') rfl hs hclos hkind hnames
    (wpAny_mono h (fun xv s₁ h₁ => ?_) fun _ _ e => e)) (fun _ s' hq => wpAny_pure (wpAny_pure hq)) fun _ _ e => e)
  obtain ⟨G, g, h₁, tk₁, gs₁, rfl, rfl, k1, sz1, iG, b1, hG⟩ := h₁
  refine wpAny_pyIter_gen iG ?_
  refine genComp (RR := fun acc C => compPost (model pr w) A E (some (assign (.Name y py) env)) (fun _ s' => Q .next s') acc C) hA hroom (TB.kp k1 Far.nil) k1 sz1 TB iG b1 hsz hG hcell hkind hx1 hx2 hne tests elt' ?_
  rintro D C h' tk gs m' us rfl rfl hn hl hS kk hb
  have B' := B.keeps kk
  have nD : h₁.objs.size ∉ own env := B.new sz1
  have nC : h₁.objs.size + 1 ∉ own env := B.new (Nat.le_succ_of_le sz1)
  have oN : ∀ a, s.heap.objs.size ≤ a → s.heap.get? a = none := fun a ha => by
    cases e : s.heap.get? a with
    | none => rfl
    | some o => exact absurd (Heap.lt_size e) (Nat.not_lt.mpr ha)
  show wpAny _ A (assign (.Name y py) env (.ref h₁.objs.size)) _ _ _
  refine wpAny_assign_Name (B'.stL (fun h₂ B₂ k₂ => ?_) hk hy)
  refine ⟨m', hn.at' fun o e => k₂ _ o nC e, fun h'' hs'' => hQ _ h'' _ gs us (kpL (kpL hl k₂ nD) (Kp.same hs'') (notMem1 (Nat.ne_of_lt (Nat.lt_succ_self _)))) hS nD (oN _ sz1) (B₂.stay1 (Kp.same hs'') nC (B.none (Nat.le_succ_of_le sz1))) (fun b o n e => ?_) hb⟩
  exact hs''.extBut b o (Nat.ne_of_lt (Nat.lt_of_lt_of_le (Heap.lt_size e) (Nat.le_succ_of_le sz1))) (k₂ b o n (kk b o (by simp) e))
end
end Mine
set_option maxHeartbeats 8000000
namespace Mine
local macro_rules | `(tactic| ktr_rel) => `(tactic| first | assumption | exact upd_eq | (refine upd_ne ?_ (by decide); ktr_rel))
def isS (u : Str) : Value → Bool
  | .str z _ => z == u
  | _ => false
section
variable {w : World} {A : Around} {E : Value → Shared → Prop} {s : Shared}
theorem sent_tail {fd : FuncData} {o : Obj} {L : Addr} {cm : Str → Option Value} {st : SE} {Pa Ia : Addr} {h : Heap} {tk : Nat} {m : Str → Option Value} {ps is : List Value} {t1 t2 : Tok} {Q : Flow → Shared → Prop}
    (ho : (KF w).lookup 99 = some o) (hd : o.data = .func fd) (T : Tp w s.heap) (k' : Ok A 4) (hb : AllBare s.gens)
    (nP0 : s.heap.get? Pa = none) (hlen : st.header.length ≤ 1000) (hleft : st.left.length ≤ 1000) (hp8 : st.pieces.length ≤ 8) (hpl : ∀ p ∈ st.pieces, 1 ≤ p.length ∧ p.length ≤ 100)
    (e4 : m "pieces" = some (.ref Pa)) (e5 : m "items" = some (.ref Ia))
    (e6 : m "header" = some (.str st.header t1)) (e7 : m "left" = some (.str st.left t2))
    (hP : h.PlainList Pa ps.toArray) (hI : h.PlainList Ia is.toArray) (sP : Strs ps st.pieces) (sI : Strs is st.items) :
    let env := callEnvC fd L 99
    Pa ∉ own env → Ia ∉ own env → Bd [] s.heap env m cm h →
    (∀ D' us h' tk gs, h'.PlainList D' (List.toArray us) → Strs us (if (parseL st.header).map Txt.strip = st.items ∧ stripP st.header = st.left ∧ told (stripP st.header) = firsts st.pieces then st.pieces else []) → s.heap.get? D' = none → Kp [] s.heap h' → AllBare gs → Q (.ret (.ref D')) { s with heap := h', toks := tk, gens := gs }) →
    wpAny (model pr w) A (execs ((pickDef 11).drop 8) env) Q E { s with heap := h, toks := tk } := by
  cases ho
  cases hd
  intro env nP nI B hQ
  have tpB : ∀ {m : Str → Option Value} {h : Heap}, Bd [] s.heap env m cm h → Tp w h := fun B => T.kp B.keep Far.nil
  refine wpAny_execs_cons (wpAny_Assign_Name (Fn_ (tpB B) (gl_35 w) (by kernel_rfl) (wpAny_items_cons (ldL B.ns (by ktr_rel) (wpAny_items_nil ⟨tpB B, strip_ok (tpB B) k' hlen hb fun t' h₁ tk₁ gs₁ k₁ hb₁ => (B.keeps k₁).stL fun h₂ B₂ k₂ => ?_⟩)))))
  (show wpAny _ _ (execs _ _) _ _ _; refine cut (P := fun st => wpAny _ _ (execs _ _) _ _ st) (h := h₂) (g := gs₁) (d := Shared.drawn s) (o := Shared.os s) fun _ => ?_)
  have P2 := kpL (kpL hP k₁ (by simp)) k₂ nP
  have I2 := kpL (kpL hI k₁ (by simp)) k₂ nI
  refine wpAny_execs_cons (wpAny_If (wpAny_isTrue_BoolOp (wpAny_allTrue_Or_cons (wpAny_isTrue_Compare1 (Fn_ (tpB B₂) (gl_82 w) (by kernel_rfl) (wpAny_items_cons (ldL B₂.ns (by ktr_rel) (wpAny_items_nil ⟨tpB B₂, parse_ok (tpB B₂) (k'.less (by decide)) (by lia) fun D vs h₃ tk₃ hD hS k₃ hD0 => ?_⟩))))))))
  have B₃ := B₂.keeps k₃
  have I3 := kpL I2 k₃ (by simp)
  have P3 := kpL P2 k₃ (by simp)
  refine ldL B₃.ns (by ktr_rel) (neStrs hD I3 hS sI k'.units (wpAny_truthy_bool ?_))
  have nil : ∀ {h' : Heap} {m' : Str → Option Value} {tk : Nat} {gs}, Bd [] s.heap env m' cm h' → AllBare gs → ¬ ((parseL st.header).map Txt.strip = st.items ∧ stripP st.header = st.left ∧ told (stripP st.header) = firsts st.pieces) →
      Q (.ret (.ref h'.objs.size)) { s with heap := h'.push { cls := .type "list", data := .seq [].toArray }, toks := tk, gens := gs } := fun {h' m' tk gs} B' hg hc => by
    refine hQ _ [] _ _ _ ⟨_, Heap.get?_push_size _ rfl⟩ ?_ (B'.none (Nat.le_refl _)) (B'.keep.trans (Kp.push _ _ _)) hg
    rw [if_neg hc]; rfl
  by_cases c1 : (parseL st.header).map Txt.strip = st.items
  case neg =>
    rw [if_pos (by simp [c1]), if_pos rfl]
    exact wpAny_execs_cons (wpAny_Return_some (wpAny_List (wpAny_items_nil ⟨by decide, nil B₃ hb₁ fun q => c1 q.1⟩)))
  rw [if_neg (by simp [c1])]
  refine wpAny_allTrue_Or_cons (wpAny_isTrue_Compare1 (ldL B₃.ns (by ktr_rel) (ldL B₃.ns (by ktr_rel) (P.ne_str (wpAny_truthy_bool ?_)))))
  have eb : ((stripP st.header).cps.toList != st.left.cps.toList) = !decide (stripP st.header = st.left) := by
    rw [bne, SeqAt.str_beq, beq_dec]
  by_cases c2 : stripP st.header = st.left
  case neg =>
    rw [if_pos (by rw [eb]; simp [c2]), if_pos rfl]
    exact wpAny_execs_cons (wpAny_Return_some (wpAny_List (wpAny_items_nil ⟨by decide, nil B₃ hb₁ fun q => c2 q.2.1⟩)))
  rw [if_neg (by rw [eb]; simp [c2])]
  refine wpAny_allTrue_Or_nil ?_
  rw [if_neg (by decide)]
  refine wpAny_execs_nil ?_
  (show wpAny _ _ (execs _ _) _ _ _; refine cut (P := fun st => wpAny _ _ (execs _ _) _ _ st) (h := h₃) (g := gs₁) (d := Shared.drawn s) (o := Shared.os s) fun _ => ?_)
  have gl := gen_len (stripP st.header).cps.toList 0 false
  have sl : (stripP st.header).cps.size ≤ 1000 := by rw [c2]; exact hleft
  refine wpAny_execs_cons (GenA_ (p := isBr) (ys₀ := gen (stripP st.header).cps.toList 0 false) k'.hd k'.room B₃ (tpB B₃) (by rw [sizeLine_eq]; simp at gl; lia)
    (Fn_ (tpB B₃) (gl_28 w) (by kernel_rfl) (wpAny_items_cons (ldL B₃.ns (by ktr_rel) (wpAny_items_nil ⟨tpB B₃, gen_new (tpB B₃) k' fun G L h₄ tk₄ gs₄ iG k₄ hL hLG hbr hGA => ⟨G, _, h₄, tk₄, _, rfl, rfl, k₄, ?_, iG, hb₁.push hbr, fun Z hZ => hGA _ _ _ k'.hd (fun q => ?_) ?_⟩⟩)))) ?_ ?_ ?_)
  · obtain ⟨_, _, _, e, _⟩ := iG
    exact Nat.le_trans hL (Nat.le_of_lt (Nat.lt_trans hLG (Heap.lt_size e)))
  · rcases hZ _ q with q | q
    · exact Nat.ne_of_lt hLG q
    · obtain ⟨_, _, _, e, _⟩ := iG
      exact absurd (Nat.lt_trans hLG (Heap.lt_size e)) (Nat.not_lt.mpr q)
  · exact Heap.get?_none_of_le hL
  · intro C u tu s₃ m₃ E₃ hn hm T₃
    refine wpAny_tests_one (wpAny_isTrue_Compare1 (ldL hn hm (wpAny_Tuple (wpAny_items_cons (wpAny_Constant_str (wpAny_items_cons (wpAny_Constant_str (wpAny_items_nil ⟨by show 2 ≤ sizeLine; decide, SeqAt.in_tupleAt (isS u) ⟨_, Heap.get?_push_size _ rfl, rfl, _, rfl⟩ ?_ (wpAny_truthy_bool ⟨?_, keepsH fun b o e => Heap.get?_push_of_some _ e⟩)⟩))))))))
    · intro y hy
      rcases (show y = _ ∨ y = _ by simpa using hy) with rfl | rfl <;> exact SeqAt.EqAt.str_str _ _ _ _
    · rw [← Array.any_toList]
      show ((Str.ofString "(" == u) || ((Str.ofString ")" == u) || false)) = isBr u
      unfold isBr
      rw [Bool.or_false, beq_dec, beq_dec]
      rw [show (decide ((Str.ofString "(") = u)) = decide (u = ⟨#[40]⟩) from by rw [decide_eq_decide]; exact eq_comm, show (decide ((Str.ofString ")") = u)) = decide (u = ⟨#[41]⟩) from by rw [decide_eq_decide]; exact eq_comm]
  · intro C u tu s₃ m₃ E₃ hn hm T₃
    exact ldL hn hm ⟨rfl, keeps0 _⟩
  · intro D₅ h₅ tk₅ gs₅ us T₅ hS₅ nD₅ D₅0 B₅ k₅ hb₅
    have P5 := kpL P3 k₅ nP
    have T5 := tpB B₅
    (show wpAny _ _ (execs _ _) _ _ _; refine cut (P := fun st => wpAny _ _ (execs _ _) _ _ st) (h := h₅) (g := gs₅) (d := Shared.drawn s) (o := Shared.os s) fun _ => ?_)
    refine wpAny_execs_cons (wpAny_Return_some (wpAny_IfExp (wpAny_isTrue_Compare1 (ldL B₅.ns (by ktr_rel) (Comp_ (ldL B₅.ns (by ktr_rel) (iterL P5.isList fun o₆ St₆ W₆ st₆ _ => ⟨_, _, _, _, _, St₆, fun _ => true, fun _ v y => ∃ x t, sv v = some x ∧ y = .str ((fun p : Str => (⟨(p.cps.toList.take 1).toArray⟩ : Str)) x) t, rfl, W₆ _ k'.hd, st₆, ?_, ?_⟩)))))))
    · refine ⟨?_, fun b hb => ?_, fun _ _ _ _ _ _ _ q => q, fun C i v s₃ m₃ E₃ _ _ _ _ _ _ _ => noTests (v := v), fun C i v s₃ m₃ E₃ _ hv _ hn hm _ _ _ => ?_⟩
      · have := sP.length
        rw [List.size_toArray, sizeLine_eq]; lia
      · show b < (Heap.push _ _).objs.size
        rw [Heap.size_push]
        rcases List.mem_cons.mp hb with rfl | hb
        · exact Nat.lt_succ_self _
        · rw [List.mem_singleton.mp hb]; obtain ⟨_, e⟩ := P5; exact Nat.lt_succ_of_lt (Heap.lt_size e)
      · obtain ⟨y, hy, hsv⟩ := sP.at (i := i) (v := v) (by simpa using hv)
        obtain ⟨u, rfl⟩ := sv_eq hsv
        have hyl := hpl y (List.mem_of_getElem? hy)
        refine SubS_ (ldL hn hm (wpAny_Constant_int ⟨y, u, 0, _, rfl, rfl, by lia, by lia, by rw [sizeLine_eq]; lia, fun c t' tk' hc => ⟨⟨y, t', rfl, ?_⟩, keepsT _ _⟩⟩))
        rw [if_neg (by decide)] at hc
        have : y.cps.toList.take 1 = [c] := by
          have hc' : y.cps.toList[0]? = some c := by simpa using hc
          cases hl : y.cps.toList with
          | nil => rw [hl] at hc'; cases hc'
          | cons a b => rw [hl] at hc'; cases hc'; rfl
        show _ = Value.str ⟨(y.cps.toList.take 1).toArray⟩ t'
        rw [this]
    · intro h₆ tk₆ ys vs₆ hD₆ hl₆ hP₆ hF₆ hk₆
      have e := vs_eq hl₆ hP₆
      rw [List.filter_eq_self.mpr (fun _ _ => rfl), e] at hF₆
      have S6 : Strs ys.toList (firsts st.pieces) := Strs.paired hF₆ sP
      have k56 : Kp [] h₅ h₆ := fun b o _ e => hk₆ b o (notMem1 (Nat.ne_of_lt (Heap.lt_size e))) (Heap.get?_push_of_some _ e)
      have B₆ := B₅.keeps k56
      refine eqStrs (kpL T₅ k56 (by simp)) (us := ys.toList) (by simpa using hD₆) hS₅ S6 k'.units (wpAny_truthy_bool ?_)
      by_cases c3 : told (stripP st.header) = firsts st.pieces
      · rw [if_pos (decide_eq_true (show List.filter isBr (List.map (fun x => x.2) (gen (stripP st.header).cps.toList 0 false)) = firsts st.pieces from c3))]
        refine ldL B₆.ns (by ktr_rel) (hQ _ ps _ _ _ (kpL P5 k56 (by simp)) ?_ nP0 B₆.keep hb₅)
        rw [if_pos ⟨c1, c2, c3⟩]; exact sP
      · rw [if_neg (by simpa [told] using c3)]
        exact wpAny_List (wpAny_items_nil ⟨by decide, nil B₆ hb₅ fun q => c3 q.2.2⟩)
end
end Mine
set_option maxHeartbeats 8000000
namespace Mine
local macro_rules | `(tactic| ktr_rel) => `(tactic| first | assumption | exact upd_eq | (refine upd_ne ?_ (by decide); ktr_rel))
theorem IntsAre.len' : ∀ {vs : List Value} {ns : List Int}, IntsAre vs ns → vs.length = ns.length
  | _, _, .nil => rfl
  | _, _, .cons _ _ t => by simp [IntsAre.len' t]
theorem IntsAre.at' : ∀ {vs : List Value} {ns : List Int}, IntsAre vs ns → ∀ {i : Nat} {v : Value}, vs[i]? = some v → ∃ n t, ns[i]? = some n ∧ v = Value.int n t
  | _, _, .nil, i, v, e => by simp at e
  | _, _, .cons n t h, i, v, e => by
    cases i with
    | zero => cases e; exact ⟨n, t, rfl, rfl⟩
    | succ i => exact IntsAre.at' h (i := i) (by simpa using e)
theorem est_pieces : ∀ (ns : List Int) (st : SE), (∀ p ∈ st.pieces, 1 ≤ p.length ∧ p.length ≤ 100) → ∀ p ∈ (ns.foldl estep st).pieces, 1 ≤ p.length ∧ p.length ≤ 100
  | [], st, h => h
  | n :: ns, st, h => est_pieces ns (estep st n) fun p hp => by
    rcases List.mem_append.mp (show p ∈ st.pieces ++ [(⟨#[brkC n]⟩ : Str) ++ written.getD (tl n) ⟨#[]⟩] from hp) with hp | hp
    · exact h p hp
    · rw [List.mem_singleton.mp hp, strLen_append]
      have := b_w (tl n)
      have e : (⟨#[brkC n]⟩ : Str).length = 1 := rfl
      lia
section
variable {w : World} {A : Around} {E : Value → Shared → Prop} {s : Shared}
theorem sent_ok {D : Addr} {vs : List Value} {ns : List Int} {Q : Value → Shared → Prop} (T : Tp w s.heap) (k : Ok A 5) (hb : AllBare s.gens) (hD : s.heap.PlainList D vs.toArray) (hI : IntsAre vs ns) (hl : ns.length ≤ 8)
    (hQ : ∀ D' us h' tk gs, h'.PlainList D' (List.toArray us) → Strs us (sentP ns) → s.heap.get? D' = none → Kp [] s.heap h' → AllBare gs → Q (.ref D') { s with heap := h', toks := tk, gens := gs }) :
    wpAny (model pr w) A (call (.ref 99) [.ref D]) Q E s := by
  refine wpAny_call (enter (a := 99) (binds := [("numbers", .ref D)]) T k rfl rfl (by kernel_rfl) rfl rfl rfl rfl (by decide) ?_)
  intro h₁ tk A' E' k' env B
  obtain ⟨cm, B⟩ : ∃ cm, Bd [] s.heap env _ cm h₁ := ⟨_, B⟩
  have tpB : ∀ {m : Str → Option Value} {h : Heap}, Bd [] s.heap env m cm h → Tp w h := fun B => T.kp B.keep Far.nil
  refine wpAny_execs_cons (wpAny_Assign_Name (wpAny_List (wpAny_items_cons (wpAny_Constant_str (wpAny_items_cons (wpAny_Constant_str (wpAny_items_cons (wpAny_Constant_str (wpAny_items_cons (wpAny_Constant_str (wpAny_items_cons (wpAny_Constant_str (wpAny_items_cons (wpAny_Constant_str (wpAny_items_nil ⟨by show 6 ≤ sizeLine; decide, (B.keeps (Kp.push _ _ _)).stL fun h₂ B₂ k₂ => ?_⟩)))))))))))))))
  obtain ⟨ws, W₂, hws⟩ : ∃ ws, h₂.PlainList h₁.objs.size (List.toArray ws) ∧ Strs ws written := ⟨_, kpL (a := h₁.objs.size) ⟨_, Heap.get?_push_size _ rfl⟩ k₂ (B.new (Nat.le_refl _)), rfl⟩
  (show wpAny _ _ (execs _ _) _ _ _; refine cut (P := fun st => wpAny _ _ (execs _ _) _ _ st) (h := h₂) (g := Shared.gens s) (d := Shared.drawn s) (o := Shared.os s) fun _ => ?_)
  refine wpAny_execs_cons (wpAny_Assign_Name (wpAny_List (wpAny_items_cons (wpAny_Constant_str (wpAny_items_cons (wpAny_Constant_str (wpAny_items_cons (wpAny_Constant_str (wpAny_items_cons (wpAny_Constant_str (wpAny_items_cons (wpAny_Constant_str (wpAny_items_cons (wpAny_Constant_str (wpAny_items_nil ⟨by show 6 ≤ sizeLine; decide, (B₂.keeps (Kp.push _ _ _)).stL fun h₃ B₃ k₃ => ?_⟩)))))))))))))))
  have kp2 : Kp (own env) h₂ h₃ := (Kp.push _ _ _).trans k₃
  obtain ⟨rs, R₃, hrs⟩ : ∃ rs, h₃.PlainList h₂.objs.size (List.toArray rs) ∧ Strs rs readT := ⟨_, kpL (a := h₂.objs.size) ⟨_, Heap.get?_push_size _ rfl⟩ k₃ (B₂.new (Nat.le_refl _)), rfl⟩
  (show wpAny _ _ (execs _ _) _ _ _; refine cut (P := fun st => wpAny _ _ (execs _ _) _ _ st) (h := h₃) (g := Shared.gens s) (d := Shared.drawn s) (o := Shared.os s) fun _ => ?_)
  refine wpAny_execs_cons (wpAny_Assign_Name (wpAny_List (wpAny_items_cons (wpAny_Constant_str (wpAny_items_cons (wpAny_Constant_str (wpAny_items_cons (wpAny_Constant_str (wpAny_items_cons (wpAny_Constant_str (wpAny_items_cons (wpAny_Constant_str (wpAny_items_cons (wpAny_Constant_str (wpAny_items_nil ⟨by show 6 ≤ sizeLine; decide, (B₃.keeps (Kp.push _ _ _)).stL fun h₄ B₄ k₄ => ?_⟩)))))))))))))))
  have kp3 : Kp (own env) h₃ h₄ := (Kp.push _ _ _).trans k₄
  obtain ⟨bs, T₄, hbs⟩ : ∃ bs, h₄.PlainList h₃.objs.size (List.toArray bs) ∧ Strs bs bareT := ⟨_, kpL (a := h₃.objs.size) ⟨_, Heap.get?_push_size _ rfl⟩ k₄ (B₃.new (Nat.le_refl _)), rfl⟩
  (show wpAny _ _ (execs _ _) _ _ _; refine cut (P := fun st => wpAny _ _ (execs _ _) _ _ st) (h := h₄) (g := Shared.gens s) (d := Shared.drawn s) (o := Shared.os s) fun _ => ?_)
  refine wpAny_execs_cons (wpAny_Assign_Name (wpAny_List (wpAny_items_nil ⟨by decide, (B₄.keeps (Kp.push _ _ _)).stL fun h₅ B₅ k₅ => ?_⟩)))
  have kp4 : Kp (own env) h₄ h₅ := (Kp.push _ _ _).trans k₅
  have P₅ : h₅.PlainList h₄.objs.size [].toArray := kpL (a := h₄.objs.size) ⟨_, Heap.get?_push_size _ rfl⟩ k₅ (B₄.new (Nat.le_refl _))
  (show wpAny _ _ (execs _ _) _ _ _; refine cut (P := fun st => wpAny _ _ (execs _ _) _ _ st) (h := h₅) (g := Shared.gens s) (d := Shared.drawn s) (o := Shared.os s) fun _ => ?_)
  refine wpAny_execs_cons (wpAny_Assign_Name (wpAny_Constant_str (B₅.stL fun h₆ B₆ k₆ => ?_)))
  (show wpAny _ _ (execs _ _) _ _ _; refine cut (P := fun st => wpAny _ _ (execs _ _) _ _ st) (h := h₆) (g := Shared.gens s) (d := Shared.drawn s) (o := Shared.os s) fun _ => ?_)
  refine wpAny_execs_cons (wpAny_Assign_Name (wpAny_List (wpAny_items_nil ⟨by decide, (B₆.keeps (Kp.push _ _ _)).stL fun h₇ B₇ k₇ => ?_⟩)))
  have kp6 : Kp (own env) h₆ h₇ := (Kp.push _ _ _).trans k₇
  have I₇ : h₇.PlainList h₆.objs.size [].toArray := kpL (a := h₆.objs.size) ⟨_, Heap.get?_push_size _ rfl⟩ k₇ (B₆.new (Nat.le_refl _))
  (show wpAny _ _ (execs _ _) _ _ _; refine cut (P := fun st => wpAny _ _ (execs _ _) _ _ st) (h := h₇) (g := Shared.gens s) (d := Shared.drawn s) (o := Shared.os s) fun _ => ?_)
  refine wpAny_execs_cons (wpAny_Assign_Name (wpAny_Constant_str (B₇.stL fun h₈ B₈ k₈ => ?_)))
  (show wpAny _ _ (execs _ _) _ _ _; refine cut (P := fun st => wpAny _ _ (execs _ _) _ _ st) (h := h₈) (g := Shared.gens s) (d := Shared.drawn s) (o := Shared.os s) fun _ => ?_)
  have nW := B.new (Nat.le_refl h₁.objs.size)
  have nR := B₂.new (Nat.le_refl h₂.objs.size)
  have nT := B₃.new (Nat.le_refl h₃.objs.size)
  have nP := B₄.new (Nat.le_refl h₄.objs.size)
  have nI := B₆.new (Nat.le_refl h₆.objs.size)
  have W₈ := kpL (kpL (kpL (kpL (kpL (kpL W₂ kp2 nW) kp3 nW) kp4 nW) k₆ nW) kp6 nW) k₈ nW
  have R₈ := kpL (kpL (kpL (kpL (kpL R₃ kp3 nR) kp4 nR) k₆ nR) kp6 nR) k₈ nR
  have T₈ := kpL (kpL (kpL (kpL T₄ kp4 nT) k₆ nT) kp6 nT) k₈ nT
  have P₈ := kpL (kpL (kpL P₅ k₆ nP) kp6 nP) k₈ nP
  have I₈ := kpL I₇ k₈ nI
  have D₈ := kpL hD B₈.keep (by simp)
  have lW : h₁.objs.size < h₂.objs.size := by obtain ⟨n, e⟩ := W₂; exact Heap.lt_size e
  have lR : h₂.objs.size < h₃.objs.size := by obtain ⟨n, e⟩ := R₃; exact Heap.lt_size e
  have lT : h₃.objs.size < h₄.objs.size := by obtain ⟨n, e⟩ := T₄; exact Heap.lt_size e
  have lP : h₄.objs.size < h₆.objs.size := by obtain ⟨n, e⟩ := kpL P₅ k₆ nP; exact Heap.lt_size e
  have lI : h₆.objs.size < h₈.objs.size := by obtain ⟨n, e⟩ := I₈; exact Heap.lt_size e
  have nP0 := B₄.none (Nat.le_refl h₄.objs.size)
  have nI0 := B₆.none (Nat.le_refl h₆.objs.size)
  have nIt := B₈.new (Nat.le_refl h₈.objs.size)
  have nIt0 := B₈.none (Nat.le_refl h₈.objs.size)
  have lD : D < s.heap.objs.size := by obtain ⟨n, e⟩ := hD; exact Heap.lt_size e
  have nD : D ∉ own env := fun q => Nat.lt_irrefl _ (Nat.lt_of_lt_of_le lD (B₈.ownNew D q))
  have nDP : D ≠ h₄.objs.size := fun q => by obtain ⟨n, e⟩ := hD; rw [q, nP0] at e; cases e
  have nDI : D ≠ h₆.objs.size := fun q => by obtain ⟨n, e⟩ := hD; rw [q, nI0] at e; cases e
  have hvl : vs.length = ns.length := IntsAre.len' hI
  clear k₂ k₃ k₄ k₅ k₆ k₇ k₈ kp2 kp3 kp4 kp6 P₅ I₇ W₂ R₃ T₄ B₂ B₃ B₄ B₅ B₆ B₇
  refine wpAny_execs_cons (For_ (ldL B₈.ns (by ktr_rel) (iterL D₈.isList fun o St W st hSt => ⟨_, _, _, _, _, St, NInv s env cm ns _ _ _ _ _, rfl, W _ k'.hd, st,
    ⟨_, _, _, [], [], ws, rs, bs, _, _, rfl, B₈.keeps (Kp.push _ _ _), by ktr_rel, by ktr_rel, by ktr_rel, by ktr_rel, by ktr_rel, by ktr_rel, by ktr_rel, kpL W₈ (Kp.push [] _ _) (by simp), kpL R₈ (Kp.push [] _ _) (by simp), kpL T₈ (Kp.push [] _ _) (by simp), kpL P₈ (Kp.push [] _ _) (by simp), kpL I₈ (Kp.push [] _ _) (by simp), hws, hrs, hbs, rfl, rfl⟩, ?_, ?_⟩)))
  · rintro i v h' tk' _ E₂ hlt hst ⟨h, tk, m, ps, is, ws', rs', bs', t1, t2, rfl, B, e1, e2, e3, e4, e5, e6, e7, oW, oR, oT, oP, oI, sW, sR, sT, sP, sI⟩ hv hst' hk
    have ne : ∀ {a : Addr}, a < h₈.objs.size → a ∉ [h₈.objs.size] := fun h => notMem1 (Nat.ne_of_lt h)
    obtain ⟨n, tn, hn, rfl⟩ : ∃ n tn, ns[i]? = some n ∧ v = .int n tn := IntsAre.at' hI (by simpa using hv)
    refine (B.stay1 hk nIt nIt0).stL fun h₁₁ B₁₁ k₁₁ => ?_
    have z6 : h₆.objs.size < h₈.objs.size := lI
    have z4 : h₄.objs.size < h₈.objs.size := Nat.lt_trans lP lI
    have z3 : h₃.objs.size < h₈.objs.size := Nat.lt_trans lT z4
    have z2 : h₂.objs.size < h₈.objs.size := Nat.lt_trans lR z3
    have z1 : h₁.objs.size < h₈.objs.size := Nat.lt_trans lW z2
    refine sent_turn (s := s) (i := i) (n := n) rfl rfl k'.units hn hl lW lR lT lP nP0 nI0 (by ktr_rel) (by ktr_rel) (by ktr_rel) (by ktr_rel) (by ktr_rel) (by ktr_rel) (by ktr_rel) (by ktr_rel) (kpL (kpL oW hk (ne z1)) k₁₁ nW) (kpL (kpL oR hk (ne z2)) k₁₁ nR) (kpL (kpL oT hk (ne z3)) k₁₁ nT) (kpL (kpL oP hk (ne z4)) k₁₁ nP) (kpL (kpL oI hk (ne z6)) k₁₁ nI) sW sR sT sP sI nW nR nT nP nI B₁₁ fun s' hN hK => ⟨?_, hN⟩
    have fr : ∀ {h h' : Heap} {X : List Addr}, St (i + 1) h → Kp X h h' → h₈.objs.size ∉ X → D ∉ X → St (i + 1) h' := fun st k n n' => (W A' k'.hd).frame _ _ _ st fun b hb o e => k b o (by
      rcases List.mem_cons.mp hb with rfl | hb
      · exact n
      · rw [List.mem_singleton.mp hb]; exact n') e
    refine fr (fr hst' k₁₁ nIt nD) hK (fun q => ?_) (fun q => ?_)
    · rcases List.mem_append.mp q with q | q
      · exact nIt q
      · rcases List.mem_cons.mp q with q | q
        · exact Nat.ne_of_gt z4 q
        · exact Nat.ne_of_gt z6 (List.mem_singleton.mp q)
    · rcases List.mem_append.mp q with q | q
      · exact nD q
      · rcases List.mem_cons.mp q with q | q
        · exact nDP q
        · exact nDI (List.mem_singleton.mp q)
  · rintro _ h' tk' _ ⟨h, tk, m, ps, is, ws', rs', bs', t1, t2, rfl, B, e1, e2, e3, e4, e5, e6, e7, oW, oR, oT, oP, oI, sW, sR, sT, sP, sI⟩ hk
    have et : ns.take vs.toArray.size = ns := by rw [List.size_toArray, hvl, List.take_length]
    rw [et] at e6 e7 sP sI
    have bd := est_bound ns ⟨[], [], Str.ofString "", Str.ofString ""⟩
    rw [show ns.foldl estep ⟨[], [], Str.ofString "", Str.ofString ""⟩ = est ns from rfl] at bd
    have z0 : (Str.ofString "").length = 0 := rfl
    simp only [z0, List.length_nil, Nat.zero_add] at bd
    have ne : ∀ {a : Addr}, a < h₈.objs.size → a ∉ [h₈.objs.size] := fun h => notMem1 (Nat.ne_of_lt h)
    refine sent_tail (s := s) (st := est ns) rfl rfl T k' hb nP0 (by lia) (by lia) (by lia) (est_pieces ns _ (fun _ q => nomatch q)) (by ktr_rel) (by ktr_rel) (by ktr_rel) (by ktr_rel) (kpL oP hk (ne (Nat.lt_trans lP lI))) (kpL oI hk (ne lI)) sP sI nP nI (B.stay1 hk nIt nIt0) fun D' us h' tk gs h1 h2 h3 h4 h5 => ?_
    exact hQ D' us h' tk gs h1 h2 h3 h4 h5
end
end Mine
set_option maxHeartbeats 4000000
namespace Mine
/-- the pure side of _law_right -/
def ringS (ps : List Str) : Str := Txt.join ⟨#[]⟩ (firsts ps)
def turnS (r : Str) (i : Nat) : Str := Txt.slice r (some (i : Int)) none ++ Txt.slice r none (some (i : Int))
def runG {α : Type} (n : Nat) (lt : Nat → Nat → Bool) : KasT α → Option α
  | .ret a => some a
  | .ask i j k => if i < n ∧ j < n then runG n lt (k (lt i j)) else none
def permR (r : Str) (n : Nat) : List Nat := match runG n (fun i j => ltv (turnS r i) (some (turnS r j))) (kas_sort n) with
  | some p => p.toList
  | none => []
def tupLt (r : Str) (o p : Nat) : Bool := decide ((turnS r o).cps.toList < (turnS r p).cps.toList) || (decide (turnS r o = turnS r p) && decide (o < p))
def aheadN (r : Str) (n p : Nat) : Nat := ((List.range n).filter fun o => tupLt r o p).length
def lastC (x : Str) : Str := ⟨(x.cps.toList.drop (x.length - 1)).toArray⟩
def colR (r : Str) (n : Nat) : List Str := (permR r n).map fun i => lastC (turnS r i)
def stabR (r : Str) (n : Nat) : List Bearer := (List.range n).foldl (fun bs i => putB ⟨(colR r n).getD i ⟨#[]⟩, i⟩ bs) []
def backR (r : Str) (n : Nat) : Nat → Nat × Str
  | 0 => ((permR r n).idxOf 0, ⟨#[]⟩)
  | k + 1 =>
    let st := backR r n k
    let a := ((stabR r n).map (·.place)).getD st.1 0
    (a, st.2 ++ (colR r n).getD a ⟨#[]⟩)
def sentS (ps : List Str) (r : Str) : Str := Txt.join ⟨#[]⟩ ((permR r ps.length).map fun i => ps.getD (if i = 0 then ps.length - 1 else i - 1) ⟨#[]⟩)
def opn (r : Str) : Nat := r.cps.toList.count 40
def par (c : Nat) (k : Nat) : Str := ⟨(List.replicate k c).toArray⟩
/-- what _law_right needs of its ring to answer True -/
structure RightOk (ps : List Str) (b : Bool) : Prop where
  two : 2 ≤ ps.length
  eight : ps.length ≤ 8
  fits : ∀ p ∈ ps, 1 ≤ p.length ∧ p.length ≤ 100
  len : (permR (ringS ps) ps.length).length = ps.length
  low : ∀ i ∈ permR (ringS ps) ps.length, i < ps.length
  zero : 0 ∈ permR (ringS ps) ps.length
  ahead : ∀ p, p < ps.length → (permR (ringS ps) ps.length)[aheadN (ringS ps) ps.length p]? = some p
  back : (backR (ringS ps) ps.length ps.length).2 = ringS ps
  open1 : 1 ≤ opn (ringS ps)
  open2 : opn (ringS ps) < ps.length
  c1 : checkP (par 40 (ps.length - opn (ringS ps)) ++ sentS ps (ringS ps) ++ par 41 (opn (ringS ps))) = true
  c2 : checkP (par 40 (ps.length - opn (ringS ps)) ++ sentS ps (ringS ps) ++ par 41 (opn (ringS ps) - 1)) = false
  c3 : checkP (par 40 (ps.length - opn (ringS ps) - 1) ++ sentS ps (ringS ps) ++ par 41 (opn (ringS ps) - 1)) = !b
end Mine
set_option maxHeartbeats 4000000
namespace Mine
section
variable {w : World} {A : Around} {E : Value → Shared → Prop} {s : Shared}
theorem lt_irr (x : List Nat) : ¬ x < x := List.lt_irrefl x
theorem pairLt {l b : Addr} {x y : Str} {i j : Int} {t u t' u' : Tok} {Q : Value → Shared → Prop} (hl : s.heap.IsTuple l #[.str x t, .int i u]) (hb : s.heap.IsTuple b #[.str y t', .int j u']) (hu : A.units < cLine)
    (h : Q (.bool (decide (x.cps.toList < y.cps.toList) || (decide (x = y) && decide (i < j)))) s) : wpAny (model pr w) A (compareOp .Lt (.ref l) (.ref b)) Q E s := by
  have ta : s.TypeIs (.ref l) "tuple" := hl.typeIs
  have tb : s.TypeIs (.ref b) "tuple" := hb.typeIs
  refine cmp_ofLt (wpAny_richCompare_same_room (op := .Lt) ta tb F.slot_tuple_lt (wpAny_call_entry F.slot_tuple_lt ta F.entry_tuple_lt ?_ (F.args_tuple_lt_2 _ _)) hu)
  obtain ⟨⟨cls, dd, data, sl⟩, ho, hc, n, hd⟩ := id hl
  obtain ⟨⟨cls2, dd2, data2, sl2⟩, ho2, hc2, n2, hd2⟩ := id hb
  simp only at hc hd hc2 hd2
  subst hc hd hc2 hd2
  have f2 := AutoSeq1.sub_tuple_tuple
  obtain ⟨hp, g, d, tk, os⟩ := s
  unfold Builtin.«tuple.__lt__»
  have q1 : ∀ {A : Around} {E : Value → Shared → Prop} {Q : Bool → Shared → Prop} {s : Shared}, Q (x == y) s → wpAny (model pr w) A (eqBool (.str x t) (.str y t')) Q E s := fun {A E Q s} h => SeqAt.EqAt.str_str x t y t' pr w E Q h
  have q2 : ∀ {A : Around} {E : Value → Shared → Prop} {Q : Bool → Shared → Prop} {s : Shared}, Q (i == j) s → wpAny (model pr w) A (eqBool (.int i u) (.int j u')) Q E s := fun {A E Q s} h => SeqAt.EqAt.int_int i u j u' pr w E Q h
  have q3 : ∀ {A : Around} {E : Value → Shared → Prop} {Q : Value → Shared → Prop} {s : Shared}, Q (.bool (decide (x.cps.toList < y.cps.toList))) s → wpAny (model pr w) A (richCompare .Lt (.str x t) (.str y t')) Q E s := fun h => P.lt_str h
  have q4 : ∀ {A : Around} {E : Value → Shared → Prop} {Q : Value → Shared → Prop} {s : Shared}, Q (.bool (decide (i < j))) s → wpAny (model pr w) A (richCompare .Lt (.int i u) (.int j u')) Q E s := fun h => P.lt_int h
  by_cases e1 : x = y
  · subst e1
    have nl : decide (x.cps.toList < x.cps.toList) = false := decide_eq_false (lt_irr _)
    rw [nl] at h
    by_cases e2 : i = j
    · subst e2
      wp_walk using wpAny_loadPart' ho, wpAny_loadPart' ho2, q1, q2, q3, q4
      have h' : Q (.bool false) ⟨hp, g, d, tk, os⟩ := by simpa using h
      exact ⟨_, rfl, (fun q => nomatch q), h'⟩
    · have b2 : (i == j) = false := by simpa using e2
      rw [b2] at q2
      wp_walk using wpAny_loadPart' ho, wpAny_loadPart' ho2, q1, q2, q3, q4
      exact ⟨_, rfl, (fun q => nomatch q), by simpa using h⟩
  · have b1 : (x == y) = false := by simpa using e1
    rw [b1] at q1
    wp_walk using wpAny_loadPart' ho, wpAny_loadPart' ho2, q1, q2, q3, q4
    exact ⟨_, rfl, (fun q => nomatch q), by simpa [e1] using h⟩
end
end Mine
set_option maxHeartbeats 4000000
namespace Mine
theorem BoolBack.of {Q : Bool → Shared → Prop} {b : Bool} {s : Shared} (h : Q b s) : PySem.W.BoolBack Q (.bool b) s := h
section
variable {w : World} {A : Around} {E : Value → Shared → Prop} {s : Shared} {L : Addr} {m : Str → Option Value}
/-- these values are handlers with these keys, each its place as its place -/
def Hdls (N : Nat) (h : Heap) (vs : List Value) (key : Nat → Str) : Prop := ∀ i v, vs[i]? = some v → ∃ x t u, v = .ref x ∧ IsH N h x (.str (key i) t) (.int (i : Int) u)
theorem Hdls.kp {N : Nat} {h h' : Heap} {vs : List Value} {key : Nat → Str} {X : List Addr} (H : Hdls N h vs key) (k : Kp X h h') (n : ∀ b ∈ X, b < N) : Hdls N h' vs key := fun i v e => by
  obtain ⟨x, t, u, rfl, q⟩ := H i v e
  exact ⟨x, t, u, rfl, q.kp k n⟩
theorem kasRun {α : Type} {N : Nat} {vs : List Value} {key : Nat → Str} (hL : 115 ≤ L) (k : Ok A 1) (Inv : Heap → Prop) (T : ∀ h, Inv h → Tp w h) (ns : ∀ h, Inv h → h.Ns L m) (H : ∀ h, Inv h → Hdls N h vs key) (st : ∀ h h', Inv h → Kp [] h h' → Inv h') {Q : α → Shared → Prop} :
    ∀ (t : KasT α) (a : α), runG vs.length (fun i j => ltv (key i) (some (key j))) t = some a → ∀ s : Shared, Inv s.heap → (∀ h' tk, Inv h' → Q a { s with heap := h', toks := tk }) → t.kasWp (kas_ask pr w A oneType' vs) Q s
  | .ret a', a, e, s, i, hq => by
    cases e
    exact hq s.heap s.toks i
  | .ask i j kk, a, e, s, hi, hq => by
    unfold runG at e
    split at e
    · rename_i hlt
      obtain ⟨x, t, u, e1, q1⟩ := H _ hi i vs[i] (List.getElem?_eq_getElem hlt.1)
      obtain ⟨y, t', u', e2, q2⟩ := H _ hi j vs[j] (List.getElem?_eq_getElem hlt.2)
      show kas_ask pr w A oneType' vs i j _ s
      unfold kas_ask
      rw [List.getD_eq_getElem?_getD, List.getD_eq_getElem?_getD, List.getElem?_eq_getElem hlt.1, List.getElem?_eq_getElem hlt.2, Option.getD_some, Option.getD_some, e1, e2]
      have q1' := q1
      obtain ⟨dx, es, n, _, _, h3, h4, _⟩ := q1
      have I : InstAt s.heap x (instObj 73 dx) 73 (some (dictOf es n)) := ⟨h3, rfl, rfl, h4⟩
      refine kas_lt_inst (C := 73) (f := 70) (K := KF w) k.units (brFr (ns _ hi)) (preK (T _ hi) hL) I (by kernel_rfl) (by kernel_rfl) ?_
      refine lt_ok (T _ hi) k q1' (.hdl q2) fun h' tk kk' => BoolBack.of ?_
      exact kasRun hL k Inv T ns H st (kk _) a e _ (st _ _ hi kk') fun h'' tk' i' => hq h'' tk' i'
    · cases e
theorem sortH {N n : Nat} {l : Addr} {vs : List Value} {r : Str} {Q : Value → Shared → Prop} (ns : s.heap.Ns L m) (hL : 115 ≤ L) (T : Tp w s.heap) (k : Ok A 2) (hN : L < N) (hl : s.heap.IsList l vs.toArray) (hn : vs.length = n) (h2 : 2 ≤ n) (h8 : n ≤ 8)
    (H : Hdls N s.heap vs (turnS r)) (hp : (permR r n).length = n)
    (hQ : ∀ D h' tk, h'.Ns L m → Kp [L] s.heap h' → L < D → (∀ b o, L < b → s.heap.get? b = some o → b < D) → h'.PlainList D (List.toArray ((permR r n).map fun i => vs.getD i Value.none)) → Q (.ref D) { s with heap := h', toks := tk }) :
    wpAny (model pr w) A (call (.builtin "sorted") [.ref l]) Q E s := by
  subst hn
  have ext : ∀ {h h' : Heap}, (∀ b o, L < b → h.get? b = some o → h'.get? b = some o) → Hdls N h vs (turnS r) → Hdls N h' vs (turnS r) := fun {h h'} kk H i v e => by
    obtain ⟨x, t, u, rfl, dx, es, n, h1, h2, h3, h4, h5, h6⟩ := H i v e
    exact ⟨x, t, u, rfl, dx, es, n, h1, h2, kk _ _ (Nat.lt_of_lt_of_le hN h1) h3, kk _ _ (Nat.lt_of_lt_of_le hN h2) h4, h5, h6⟩
  have tpF : ∀ {h : Heap}, Fr (pre s.heap L) L h m → News (pre s.heap L) L h (post s.heap L) → Tp w h := fun {h} F N' => T.kp (brBack F N' [] fun b o _ q => q) (Far.one hL)
  have hdF : ∀ {h : Heap}, Fr (pre s.heap L) L h m → News (pre s.heap L) L h (post s.heap L) → Hdls N h vs (turnS r) := fun {h} F N' => ext (fun b o hb e => brBack F N' [] (fun b o _ q => q) b o (notMem1 (Nat.ne_of_gt hb)) e) H
  refine kas_sorted (T := .ref 73) (brFr ns) brN hl h2 (by omega) (fun h F N' v hv => ?_) rfl fun D e1 h' F N' hD => ?_
  · obtain ⟨i, hi, rfl⟩ := List.getElem_of_mem hv
    obtain ⟨x, t, u, e, dx, es, n, _, _, h3, h4, _⟩ := hdF F N' i _ (List.getElem?_eq_getElem hi)
    rw [e]
    exact (⟨h3, rfl, rfl, h4⟩ : InstAt h x (instObj 73 dx) 73 (some (dictOf es n))).type
  · have hh : ∃ p, runG vs.length (fun i j => ltv (turnS r i) (some (turnS r j))) (kas_sort vs.length) = some p ∧ p.toList = permR r vs.length := by
      unfold permR at hp ⊢
      split
      · rename_i p e; exact ⟨p, e, rfl⟩
      · rename_i e; rw [e] at hp; simp at hp; omega
    obtain ⟨p, e, ep⟩ := hh
    have U : UpdF D (seqObj "list" #[] e1) ((D, seqObj "list" #[] e1) :: post s.heap L) _ := .head fun q hq => Nat.ne_of_lt (hD q hq)
    have k1 : Ok A.in1.in1 1 := ⟨k.hd, by have := k.dp; show A.depth + 1 < _; omega, by have := k.un; show A.units + 1 + 1 + 20 * 1 < _; omega⟩
    refine kasRun (s := { s with heap := h' }) (A := A.in1.in1) (key := turnS r) (N := N) (L := L) (m := m) hL k1
      (fun h => Fr (pre s.heap L) L h m ∧ News (pre s.heap L) L h ((D, seqObj "list" #[] e1) :: post s.heap L)) (fun h i => tpF i.1 fun p hp => i.2 p (.tail _ hp)) (fun h i => i.1.ns) (fun h i => hdF i.1 fun p hp => i.2 p (.tail _ hp)) (fun h h'' i kk => ⟨i.1.kept kk.all, i.2.grown kk.all⟩) _ p e ⟨F, N'⟩ fun h'' tk i => ?_
    refine KasFin.intro i.1 i.2 U fun h3 c F3 N3 => ?_
    have N3' : News (pre s.heap L) L h3 (post s.heap L) := fun p hp => N3 p (.tail _ hp)
    have hup : ∀ b o, L < b → s.heap.get? b = some o → b < D := fun b o hb e => hD (b, o) (mem_post.mpr ⟨hb, e⟩)
    have hLD : L < D := by
      obtain ⟨x, t, u, e, dx, es, n, h1, _, h3, _⟩ := H 0 vs[0] (List.getElem?_eq_getElem (by omega))
      exact Nat.lt_trans (Nat.lt_of_lt_of_le hN h1) (hup x _ (Nat.lt_of_lt_of_le hN h1) h3)
    refine hQ D h3 tk F3.ns (brBack F3 N3' [] fun b o _ q => q) hLD hup ⟨c, ?_⟩
    rw [← ep]
    exact (N3 _ (.head _)).1
end
end Mine
set_option maxHeartbeats 4000000
namespace Mine
local macro_rules | `(tactic| ktr_rel) => `(tactic| first | assumption | exact upd_eq | (refine upd_ne ?_ (by decide); ktr_rel))
section
variable {w : World} {A : Around} {E : Value → Shared → Prop} {s : Shared}
theorem firsts_len (ps : List Str) : ∀ x ∈ firsts ps, x.length ≤ 1 := fun x hx => by
  obtain ⟨p, _, rfl⟩ := List.mem_map.mp hx
  show (p.cps.toList.take 1).toArray.size ≤ 1
  simp; lia
/-- right's first four statements: count, ring, turns -/
theorem right_a {fd : FuncData} {o : Obj} {L : Addr} {D : Addr} {vs : List Value} {ps : List Str} {b : Bool} {h : Heap} {tk : Nat} {m cm : Str → Option Value} {Q : Flow → Shared → Prop}
    (ho : (KF w).lookup 109 = some o) (hd : o.data = .func fd) (T : Tp w s.heap) (k' : Ok A 6) (R : RightOk ps b) (hD : h.PlainList D vs.toArray) (hS : Strs vs ps) (e0 : cm "pieces" = some (.ref D)) :
    let env := callEnvC fd L 109
    Bd [91] s.heap env m cm h →
    (∀ h' tk m' cm' Ta us t1, Bd [91] s.heap env m' cm' h' → (∀ x : Str, x ≠ "count" → m' x = m x) → m' "count" = some (.int (ps.length : Int) t1) → (∃ t, cm' "ring" = some (.str (ringS ps) t)) → cm' "turns" = some (.ref Ta) → cm' "pieces" = some (.ref D) →
      h'.PlainList Ta (List.toArray us) → Strs us ((List.range ps.length).map (turnS (ringS ps))) → Ta ∉ own env → 115 ≤ Ta → Kp (own env) h h' →
      wpAny (model pr w) A (execs ((pickDef 13).drop 3) env) Q E { s with heap := h', toks := tk }) →
    wpAny (model pr w) A (execs (pickDef 13) env) Q E { s with heap := h, toks := tk } := by
  cases ho
  cases hd
  intro env B hQ
  have tpB : ∀ {m cm : Str → Option Value} {h : Heap}, Bd [91] s.heap env m cm h → Tp w h := fun B => T.kp B.keep (fun b hb => .inr (List.mem_singleton.mp hb))
  have n8 := R.eight
  have hvl : vs.length = ps.length := hS.length
  have c0 := B.cellv (n := "pieces") rfl e0
  refine wpAny_execs_cons (wpAny_Assign_Name (Bi_ (tpB B) (gn_len w) bb_len (wpAny_items_cons (ldC c0 (wpAny_items_nil (len_list hD.isList (by rw [List.size_toArray]; lia) (B.stL fun h₁ B₁ k₁ => ?_)))))))
  rw [List.size_toArray, hvl] at B₁
  (show wpAny _ _ (execs _ _) _ _ _; refine cut (P := fun st => wpAny _ _ (execs _ _) _ _ st) (h := h₁) (g := Shared.gens s) (d := Shared.drawn s) (o := Shared.os s) fun _ => ?_)
  have nD : D ∉ own env := by obtain ⟨n, e⟩ := hD; exact B.apart_list e rfl
  have D1 := kpL hD k₁ nD
  have c1 := B₁.cellv (n := "pieces") rfl e0
  refine wpAny_execs_cons (wpAny_Assign_Name (Meth_ (wpAny_Constant_str (SB.join (Comp_ (ldC c1 (iterL D1.isList fun o₆ St₆ W₆ st₆ _ => ⟨_, _, _, _, _, St₆, fun _ => true, fun _ v y => ∃ x t, sv v = some x ∧ y = .str ((fun p : Str => (⟨(p.cps.toList.take 1).toArray⟩ : Str)) x) t, rfl, W₆ _ k'.hd, st₆, ?_, ?_⟩)))))))
  · refine ⟨?_, fun b hb => ?_, fun _ _ _ _ _ _ _ q => q, fun C i v s₃ m₃ E₃ _ _ _ _ _ _ _ => noTests (v := v), fun C i v s₃ m₃ E₃ _ hv _ hn hm _ _ _ => ?_⟩
    · rw [List.size_toArray, sizeLine_eq]; lia
    · show b < (Heap.push _ _).objs.size
      rw [Heap.size_push]
      rcases List.mem_cons.mp hb with rfl | hb
      · exact Nat.lt_succ_self _
      · rw [List.mem_singleton.mp hb]; obtain ⟨_, e⟩ := D1; exact Nat.lt_succ_of_lt (Heap.lt_size e)
    · obtain ⟨y, hy, hsv⟩ := hS.at (i := i) (v := v) (by simpa using hv)
      obtain ⟨u, rfl⟩ := sv_eq hsv
      have hyl := R.fits y (List.mem_of_getElem? hy)
      refine SubS_ (ldL hn hm (wpAny_Constant_int ⟨y, u, 0, _, rfl, rfl, by lia, by lia, by rw [sizeLine_eq]; lia, fun c t' tk' hc => ⟨⟨y, t', rfl, ?_⟩, keepsT _ _⟩⟩))
      rw [if_neg (by decide)] at hc
      have : y.cps.toList.take 1 = [c] := by
        have hc' : y.cps.toList[0]? = some c := by simpa using hc
        cases hl : y.cps.toList with
        | nil => rw [hl] at hc'; cases hc'
        | cons a b => rw [hl] at hc'; cases hc'; rfl
      show _ = Value.str ⟨(y.cps.toList.take 1).toArray⟩ t'
      rw [this]
  intro h₂ tk₂ ys vs₂ hD₂ hl₂ hP₂ hF₂ hk₂
  have e := vs_eq hl₂ hP₂
  rw [List.filter_eq_self.mpr (fun _ _ => rfl), e] at hF₂
  have S2 : Strs ys.toList (firsts ps) := Strs.paired hF₂ hS
  have k12 : Kp [] h₁ h₂ := fun b o _ e => hk₂ b o (notMem1 (Nat.ne_of_lt (Heap.lt_size e))) (Heap.get?_push_of_some _ e)
  have B₂ := B₁.keeps k12
  obtain ⟨l, hl, hl'⟩ := S2.values
  have hlen := sum_le (firsts_len ps)
  have hfl : (firsts ps).length = ps.length := by simp [firsts]
  refine ⟨_, l, rfl, by rw [← hl]; simpa using hD₂.isList, _, hl', joinOk_of (by rw [show (Str.ofString "").length = 0 from rfl]; lia), fun t' k => ?_⟩
  show wpAny _ _ (storeName _ _ (.str (ringS ps) t')) _ _ _
  refine B₂.stC fun h₃ B₃ k₃ => ?_
  (show wpAny _ _ (execs _ _) _ _ _; refine cut (P := fun st => wpAny _ _ (execs _ _) _ _ st) (h := h₃) (g := Shared.gens s) (d := Shared.drawn s) (o := Shared.os s) fun _ => ?_)
  have cr := B₃.cellv (n := "ring") rfl upd_eq
  have rl : (ringS ps).length ≤ 8 := by
    have e0 : (⟨#[]⟩ : Str).length = 0 := rfl
    have h := StrLaws.join_length_le ⟨#[]⟩ (firsts ps)
    rw [show Str.join ⟨#[]⟩ (firsts ps) = ringS ps from (StrLaws.glued_eq_join _ _).symm] at h
    rw [e0] at h
    lia
  have rs : (ringS ps).length ≤ sizeLine := by rw [sizeLine_eq]; lia
  refine wpAny_execs_cons (wpAny_Assign_Name (Comp_ (Ty_ (tpB B₃) (gn_range w) bb_range (wpAny_items_cons (ldL B₃.ns (by ktr_rel) (wpAny_items_nil (range1 (N := ps.length) fun h₄ ra t0 u v k₄ hra tk₄ => iterR hra (by decide) (by lia) fun h₅ St W st k₅ z₅ hin => ?_))))))) 
  have k35 : Kp [] h₃ h₅ := k₄.trans k₅
  have B₅ := B₃.keeps k35
  refine ⟨_, _, _, _, _, St, fun _ => true, fun _ v y => ∃ (j : Nat) (tj : Tok), v = .int (j : Int) tj ∧ ∃ ty, y = .str (turnS (ringS ps) j) ty, rfl, W _ k'.hd, st, ?_, ?_⟩
  · refine ⟨by rw [sizeLine_eq]; lia, fun b hb => by rw [List.mem_singleton.mp hb]; exact Nat.lt_of_lt_of_eq (Nat.lt_succ_self _) z₅.symm, fun _ _ _ _ _ _ _ q => q, fun C i v s₃ m₃ E₃ _ _ _ _ _ _ _ => noTests (v := v), fun C j v s₃ m₃ E₃ hC hv _ hn hm hk hsz _ => ?_⟩
    obtain ⟨tj, rfl⟩ := hv
    have k3 : Kp [] h₃ s₃.heap := fun b o _ e => hk b o (notMem1 (Nat.ne_of_lt (Heap.lt_size (k₄.all _ _ e)))) (k35.all _ _ e)
    have cr3 : s₃.heap.IsCell _ (some (.str (ringS ps) t')) := let ⟨o, e, q⟩ := cr; ⟨o, k3.all _ _ e, q⟩
    refine wpAny_BinOp (SlS_ (ldC cr3 (ldL hn hm (wpAny_pure ⟨ringS ps, t', some (_, _), none, rfl, rfl, rfl, rs, fun h₆ t6 tk6 k6 => ?_⟩))))
    have cr6 : h₆.IsCell _ (some (.str (ringS ps) t')) := let ⟨o, e, q⟩ := cr3; ⟨o, k6.all _ _ e, q⟩
    refine SlS_ (ldC cr6 (wpAny_pure (ldL (hn.keeps k6.all) hm ⟨ringS ps, t', none, some (_, _), rfl, rfl, rfl, rs, fun h₇ t7 tk7 k7 => add_str (fun t8 tk8 => ⟨⟨0 + j, tj, rfl, t8, rfl⟩, keepsH (k6.trans k7).all⟩) ?_⟩)))
    have a := Txt.slice_le (ringS ps) (some ((0 + j : Nat) : Int)) none
    have b := Txt.slice_le (ringS ps) none (some ((0 + j : Nat) : Int))
    rw [sizeLine_eq]
    exact Nat.le_trans (Nat.add_le_add a b) (by lia)
  · intro h₆ tk₆ ys vs₆ hD₆ hl₆ hP₆ hF₆ hk₆
    obtain ⟨hys, hyv⟩ := range_paired (a := 0) hl₆ hP₆ hF₆
    have B₆ := B₅.stay1 hk₆ ((B₃.keeps k₄).new (Nat.le_refl _)) ((B₃.keeps k₄).none (Nat.le_refl _))
    refine B₆.stC fun h₇ B₇ k₇ => ?_
    (show wpAny _ _ (execs _ _) _ _ _; refine cut (P := fun st => wpAny _ _ (execs _ _) _ _ st) (h := h₇) (g := Shared.gens s) (d := Shared.drawn s) (o := Shared.os s) fun _ => ?_)
    have nT : h₅.objs.size ∉ own env := B₅.new (Nat.le_refl _)
    have T7 : h₇.PlainList h₅.objs.size ys := kpL hD₆ k₇ nT
    have lt56 : ∀ b o, h₃.get? b = some o → b ≠ h₄.objs.size := fun b o e q => Nat.lt_irrefl _ (q ▸ Heap.lt_size (k₄.all _ _ e))
    have hk16 : Kp (own env) h h₇ := fun b o n e => k₇ b o n (hk₆ b o (notMem1 (lt56 b o (k₃ b o n (k12.all _ _ (k₁ b o n e))))) (k35.all _ _ (k₃ b o n (k12.all _ _ (k₁ b o n e)))))
    have hSt : Strs ys.toList ((List.range ps.length).map (turnS (ringS ps))) := by
      unfold Strs
      apply List.ext_getElem?
      intro j
      rw [List.getElem?_map, List.getElem?_map, List.getElem?_map]
      by_cases hj : j < ps.length
      · obtain ⟨ty, e⟩ := hyv j _ (Array.getElem?_eq_getElem (by rw [hys]; exact hj))
        rw [Array.getElem?_toList, Array.getElem?_eq_getElem (by rw [hys]; exact hj), e, List.getElem?_range hj, Nat.zero_add]; rfl
      · rw [List.getElem?_eq_none (by simp [hys]; lia), List.getElem?_eq_none (by simp; lia)]; rfl
    have lo : 115 ≤ h₅.objs.size := Nat.le_trans T.size (Nat.le_trans B₅.fresh (Nat.le_of_lt B₅.ns.lt))
    exact hQ _ _ _ _ _ _ _ B₇ (fun x hx => if_neg hx) upd_eq ⟨_, by ktr_rel⟩ upd_eq (by ktr_rel) (by simpa using T7) hSt nT lo hk16
end
end Mine
set_option maxHeartbeats 4000000
namespace Mine
theorem Kp.new {X Y : List Addr} {a h h' : Heap} (k : Kp X a h) (k' : Kp Y h h') (n : ∀ b ∈ Y, b ∉ X → a.get? b = none) : Kp X a h' := fun b o hb e => k' b o (fun q => by rw [n b q hb] at e; cases e) (k b o hb e)
theorem Kp.old {X : List Addr} {a h : Heap} (k : Kp X a h) {b : Addr} {o : Obj} (hb : b ∉ X) (e : a.get? b = some o) : b < h.objs.size := Heap.lt_size (k b o hb e)
theorem get_none {h : Heap} {a : Addr} (q : h.objs.size ≤ a) : h.get? a = none := by
  cases e : h.get? a with
  | none => rfl
  | some o => exact absurd (Heap.lt_size e) (Nat.not_lt.mpr q)
/-- the first variables of _law_right -/
structure RV (s : Shared) (env : Env) (ps : List Str) (b : Bool) (D Ta : Addr) (vs us : List Value) (h : Heap) (m cm : Str → Option Value) : Prop where
  B : Bd [91] s.heap env m cm h
  tb : TabOk h
  cnt : ∃ t, m "count" = some (.int (ps.length : Int) t)
  spr : m "spread" = some (.bool b)
  ring : ∃ t, cm "ring" = some (.str (ringS ps) t)
  turns : cm "turns" = some (.ref Ta)
  pieces : cm "pieces" = some (.ref D)
  LT : h.PlainList Ta us.toArray
  sT : Strs us ((List.range ps.length).map (turnS (ringS ps)))
  LD : h.PlainList D vs.toArray
  sD : Strs vs ps
  nT : Ta ∉ own env
  nD : D ∉ own env
  lT : 115 ≤ Ta
  lD : D ≠ 91
theorem n91 {a : Addr} {L : List Addr} (h : 115 ≤ a) (n : a ∉ L) : a ∉ (91 : Addr) :: L := fun q => by
  rcases List.mem_cons.mp q with rfl | q
  · exact absurd h (by decide)
  · exact n q
theorem n91' {a : Addr} {L : List Addr} (h : a ≠ 91) (n : a ∉ L) : a ∉ (91 : Addr) :: L := fun q => by
  rcases List.mem_cons.mp q with q | q
  · exact h q
  · exact n q
def SameOn (L : List Str) (m m' : Str → Option Value) : Prop := ∀ x ∈ L, m' x = m x
theorem SameOn.refl (L : List Str) (m : Str → Option Value) : SameOn L m m := fun _ _ => rfl
theorem SameOn.put {L : List Str} {m m' : Str → Option Value} {x : Str} {v : Value} (h : SameOn L m m') (n : x ∉ L) : SameOn L m (upd m' x v) := fun y hy => (if_neg fun (e : y = x) => n (e ▸ hy)).trans (h y hy)
theorem SameOn.sub {L L' : List Str} {m m' : Str → Option Value} (h : SameOn L m m') (n : ∀ x ∈ L', x ∈ L) : SameOn L' m m' := fun y hy => h y (n y hy)
theorem RV.on {s : Shared} {env : Env} {ps : List Str} {b : Bool} {D Ta : Addr} {vs us : List Value} {h h' : Heap} {m cm m' cm' : Str → Option Value} (R : RV s env ps b D Ta vs us h m cm)
    (B' : Bd [91] s.heap env m' cm' h') (tb' : TabOk h') (k : Kp (91 :: own env) h h') (e1 : SameOn ["count", "spread"] m m') (e2 : SameOn ["ring", "turns", "pieces"] cm cm') : RV s env ps b D Ta vs us h' m' cm' :=
  ⟨B', tb', e1 "count" (by simp) ▸ R.cnt, (e1 "spread" (by simp)).trans R.spr, e2 "ring" (by simp) ▸ R.ring, (e2 "turns" (by simp)).trans R.turns, (e2 "pieces" (by simp)).trans R.pieces, kpL R.LT k (n91 R.lT R.nT), R.sT, kpL R.LD k (n91' R.lD R.nD), R.sD, R.nT, R.nD, R.lT, R.lD⟩
theorem RV.to {s : Shared} {env : Env} {ps : List Str} {b : Bool} {D Ta : Addr} {vs us : List Value} {h h' : Heap} {m cm m' cm' : Str → Option Value} (R : RV s env ps b D Ta vs us h m cm)
    (B' : Bd [91] s.heap env m' cm' h') (tb' : TabOk h') (k : Kp (91 :: own env) h h') (e1 : m' "count" = m "count") (e2 : m' "spread" = m "spread") (e3 : cm' "ring" = cm "ring") (e4 : cm' "turns" = cm "turns") (e5 : cm' "pieces" = cm "pieces") :
    RV s env ps b D Ta vs us h' m' cm' :=
  ⟨B', tb', e1 ▸ R.cnt, e2.trans R.spr, e3 ▸ R.ring, e4.trans R.turns, e5.trans R.pieces, kpL R.LT k (n91 R.lT R.nT), R.sT, kpL R.LD k (n91' R.lD R.nD), R.sD, R.nT, R.nD, R.lT, R.lD⟩
/-- rows -/
structure RO (env : Env) (n : Nat) (r : Str) (N : Nat) (Ra : Addr) (hs : List Value) (h : Heap) (m : Str → Option Value) : Prop where
  v : m "rows" = some (.ref Ra)
  l : h.PlainList Ra (List.toArray ((permR r n).map fun i => hs.getD i Value.none))
  H : Hdls N h hs (turnS r)
  len : hs.length = n
  nR : Ra ∉ own env
  lR : 115 ≤ Ra
  up : ∀ b ∈ own env, b < N
  lo : 115 ≤ N
theorem RO.to {env : Env} {n : Nat} {r : Str} {N : Nat} {Ra : Addr} {hs : List Value} {h h' : Heap} {m m' : Str → Option Value} (R : RO env n r N Ra hs h m) (k : Kp (91 :: own env) h h') (e : m' "rows" = m "rows") : RO env n r N Ra hs h' m' :=
  ⟨e.trans R.v, kpL R.l k (n91 R.lR R.nR), R.H.kp k fun b hb => by
    rcases List.mem_cons.mp hb with rfl | hb
    · exact Nat.lt_of_lt_of_le (by decide) R.lo
    · exact R.up b hb, R.len, R.nR, R.lR, R.up, R.lo⟩
theorem Walks.below {w : World} {A : Around} {I : Addr} {fp wr : List Addr} {n : Nat} {P : Nat → Value → Prop} {St : Nat → Heap → Prop} (W : Walks pr w A I fp wr n P St) : Walks pr w A I fp wr n (fun i v => i < n ∧ P i v) St where
  sub := W.sub
  frame := W.frame
  item := fun i s Q E hi hst hq => W.item i s Q E hi hst fun v h' tk hp => hq v h' tk ⟨hi, hp⟩
  done := W.done
  self := W.self
def natOf : Value → Nat
  | .int j _ => j.toNat
  | _ => 0
theorem vs_range {vs : List Value} {n : Nat} (hl : vs.length = n) (hP : ∀ j v, vs[j]? = some v → ∃ t, v = Value.int ((0 + j : Nat) : Int) t) : vs.map natOf = List.range n := by
  apply List.ext_getElem?
  intro j
  rw [List.getElem?_map]
  by_cases hj : j < n
  · obtain ⟨t, e⟩ := hP j vs[j] (List.getElem?_eq_getElem (by lia))
    rw [List.getElem?_eq_getElem (by lia), List.getElem?_range hj, e]
    simp [natOf]
  · rw [List.getElem?_eq_none (by lia), List.getElem?_eq_none (by simp; lia)]; rfl
theorem filter_natOf {vs : List Value} {n : Nat} (q : Nat → Bool) (hl : vs.length = n) (hP : ∀ j v, vs[j]? = some v → ∃ t, v = Value.int ((0 + j : Nat) : Int) t) : (vs.filter fun v => q (natOf v)).length = ((List.range n).filter q).length := by
  rw [← vs_range hl hP, List.filter_map, List.length_map]; rfl
/-- text facts -/
theorem strExt {x y : Str} (h : x.cps.toList = y.cps.toList) : x = y := by
  obtain ⟨a⟩ := x; obtain ⟨b⟩ := y
  have : a = b := Array.toList_inj.mp h
  rw [this]
theorem firsts_one {ps : List Str} (h : ∀ p ∈ ps, 1 ≤ p.length) : ∀ x ∈ firsts ps, x.length = 1 := fun x hx => by
  obtain ⟨p, hp, rfl⟩ := List.mem_map.mp hx
  have : 1 ≤ p.cps.size := h p hp
  show (p.cps.toList.take 1).toArray.size = 1
  simp; lia
theorem join0 : ∀ xs : List Str, (Txt.join ⟨#[]⟩ xs).cps.toList = (xs.map fun x => x.cps.toList).flatten := fun xs => by
  show (Builtin.Str.glued ⟨#[]⟩ xs).cps.toList = _
  rw [StrLaws.glued_eq_join]
  induction xs with
  | nil => rfl
  | cons x xs ih =>
    cases xs with
    | nil => show x.cps.toList = _; simp
    | cons y ys =>
      show (x ++ ⟨#[]⟩ ++ Str.join ⟨#[]⟩ (y :: ys) : Str).cps.toList = _
      rw [cps_toList_append, cps_toList_append, ih]
      simp
theorem flat_one {xs : List (List Nat)} (h : ∀ x ∈ xs, x.length = 1) : xs.flatten.length = xs.length := by
  induction xs with
  | nil => rfl
  | cons x xs ih =>
    have := ih fun y hy => h y (.tail _ hy)
    have := h x (.head _)
    simp at *; lia
theorem ringS_len {ps : List Str} (h : ∀ p ∈ ps, 1 ≤ p.length) : (ringS ps).length = ps.length := by
  have e : (ringS ps).length = (ringS ps).cps.toList.length := by simp [Str.length]
  rw [e]
  unfold ringS
  rw [join0, flat_one]
  · simp [firsts]
  · intro x hx
    obtain ⟨y, hy, rfl⟩ := List.mem_map.mp hx
    have := firsts_one h y hy
    simpa [Str.length] using this
theorem turnS_eq {r : Str} {i : Nat} (hi : i ≤ r.length) : turnS r i = ⟨(r.cps.toList.drop i ++ r.cps.toList.take i).toArray⟩ := by
  have hl : r.length = r.cps.toList.length := by simp [Str.length]
  unfold turnS
  rw [beq_iff_eq.mp (slice_closes_from (x := r) (i := (i : Int)) ⟨by lia, by lia⟩), beq_iff_eq.mp (slice_closes_to (x := r) (j := (i : Int)) ⟨by lia, by lia⟩)]
  have e1 : ((r.cps.toList.length : Int) - (i : Int)).toNat = r.cps.toList.length - i := by lia
  have e2 : ((i : Int) - 0).toNat = i := by lia
  rw [e1, e2]
  exact strExt (by rw [cps_toList_append]; simp; exact List.take_of_length_le (by simp))
theorem turnS_len {r : Str} {i : Nat} (hi : i ≤ r.length) : (turnS r i).length = r.length := by
  have hl : r.length = r.cps.toList.length := by simp [Str.length]
  rw [turnS_eq hi]
  show (r.cps.toList.drop i ++ r.cps.toList.take i).toArray.size = _
  simp
  have : r.cps.size = r.length := rfl
  lia
end Mine
set_option maxHeartbeats 4000000
namespace Mine
local macro_rules | `(tactic| ktr_rel) => `(tactic| first | assumption | exact upd_eq | (refine upd_ne ?_ (by decide); ktr_rel))
theorem isCell_kp {h h' : Heap} {c : Addr} {v : Option Value} (i : h.IsCell c v) (k : Kp [] h h') : h'.IsCell c v := let ⟨o, e, q⟩ := i; ⟨o, k.all _ _ e, q⟩
theorem plain_lt {h : Heap} {a : Addr} {its : Array Value} (i : h.PlainList a its) : a < h.objs.size := let ⟨_, e⟩ := i; Heap.lt_size e
section
variable {w : World} {A : Around} {E : Value → Shared → Prop} {s : Shared}
theorem right_b {fd : FuncData} {o : Obj} {L D Ta : Addr} {vs us : List Value} {ps : List Str} {b : Bool} {h : Heap} {tk : Nat} {m cm : Str → Option Value} {Q : Flow → Shared → Prop}
    (ho : (KF w).lookup 109 = some o) (hd : o.data = .func fd) (T : Tp w s.heap) (k' : Ok A 6) (R : RightOk ps b) :
    let env := callEnvC fd L 109
    RV s env ps b D Ta vs us h m cm →
    (∀ h' tk m' N Ra hs, RV s env ps b D Ta vs us h' m' cm → RO env ps.length (ringS ps) N Ra hs h' m' → Kp (91 :: own env) h h' →
      wpAny (model pr w) A (execs ((pickDef 13).drop 4) env) Q E { s with heap := h', toks := tk }) →
    wpAny (model pr w) A (execs ((pickDef 13).drop 3) env) Q E { s with heap := h, toks := tk } := by
  cases ho
  cases hd
  intro env V hQ
  have tpB : ∀ {m cm : Str → Option Value} {h : Heap}, Bd [91] s.heap env m cm h → Tp w h := fun B => T.kp B.keep (fun b hb => .inr (List.mem_singleton.mp hb))
  have n2 := R.two
  have n8 := R.eight
  have B := V.B
  obtain ⟨tc, ec⟩ := V.cnt
  have hL : 115 ≤ env.locals := Nat.le_trans T.size B.fresh
  have hrl := ringS_len fun p hp => (R.fits p hp).1
  refine wpAny_execs_cons (wpAny_Assign_Name (Bi_ (tpB B) (gn_sorted w) bb_sorted (wpAny_items_cons (Comp_ (Ty_ (tpB B) (gn_range w) bb_range (wpAny_items_cons (ldL B.ns (by ktr_rel) (wpAny_items_nil (range1 (N := ps.length) fun h₄ ra t0 u v k₄ hra tk₄ => iterR hra (by decide) (by lia) fun h₅ St W st k₅ z₅ hin => ?_)))))))))
  have k35 : Kp [] h h₅ := k₄.trans k₅
  have B₅ := B.keeps k35
  have TT : h.PlainList Ta us.toArray := V.LT
  have ct := B.cellv (n := "turns") rfl V.turns
  refine ⟨_, _, _, _, _, St, fun _ => true, fun hh v y => ∃ (j : Nat) (tj : Tok), v = .int (j : Int) tj ∧ ∃ x t u, y = .ref x ∧ IsH (h₅.objs.size + 2) hh x (.str (turnS (ringS ps) j) t) (.int (j : Int) u), rfl, Walks.below (W _ k'.hd), st, ?_, ?_⟩
  · refine ⟨by rw [sizeLine_eq]; lia, fun b hb => by rw [List.mem_singleton.mp hb]; exact Nat.lt_of_lt_of_eq (Nat.lt_succ_self _) z₅.symm, fun Z h h' v y hZ kk q => ?_, fun C i v s₃ m₃ E₃ _ _ _ _ _ _ _ => noTests (v := v), fun C j v s₃ m₃ E₃ hC hv _ hn hm hk hsz _ => ?_⟩
    · obtain ⟨j, tj, e, x, t, u, e2, i⟩ := q
      exact ⟨j, tj, e, x, t, u, e2, i.kp kk hZ⟩
    · obtain ⟨hjn, tj, rfl⟩ := hv
      have hjn : j < ps.length := hjn
      have k3 : Kp [] h s₃.heap := fun b o _ e => hk b o (notMem1 (Nat.ne_of_lt (Heap.lt_size (k₄.all _ _ e)))) (k35.all _ _ e)
      have T₃ : Tp w s₃.heap := (tpB B).kp k3 Far.nil
      have ct3 := isCell_kp ct k3
      have TT3 := kpL TT k3 (by simp)
      have hul : us.length = ps.length := by rw [V.sT.length]; simp
      refine Fn_ T₃ (gl_89 w) (by kernel_rfl) (wpAny_items_cons (Sub1_ (ldC ct3 (ldL hn hm ⟨Ta, us.toArray, _, _, rfl, rfl, TT3.isList, by lia, by rw [List.size_toArray, hul]; lia, by rw [List.size_toArray, sizeLine_eq]; lia, fun x hx => ?_⟩))))
      rw [if_neg (by lia), Int.toNat_natCast] at hx
      obtain ⟨y, hy, hsv⟩ := V.sT.at (i := 0 + j) (v := x) (by simpa using hx)
      obtain ⟨tt, rfl⟩ := sv_eq hsv
      have hj : 0 + j < ps.length := by
        have := List.getElem?_eq_some_iff.mp hy
        obtain ⟨q, _⟩ := this
        simpa using q
      rw [List.getElem?_map, List.getElem?_range hj] at hy
      cases hy
      refine wpAny_items_cons (ldL hn hm (wpAny_items_nil ⟨T₃, handler_ok T₃ (k'.less (by decide)) fun x h₇ tk₇ hx k₇ => ?_⟩))
      obtain ⟨dx, es, n, g1, g2, g3, g4, g5, g6⟩ := hx
      have z : h₅.objs.size + 2 ≤ s₃.heap.objs.size := hsz
      exact ⟨⟨0 + j, tj, rfl, x, tt, tj, rfl, dx, es, n, Nat.le_trans z g1, Nat.le_trans z g2, g3, g4, g5, g6⟩, keepsH k₇.all⟩
  · intro h₆ tk₆ ys vs₆ hD₆ hl₆ hP₆ hF₆ hk₆
    obtain ⟨hys, hyv⟩ := range_paired (a := 0) (n := ps.length) (R := fun j y => ∃ x t u, y = .ref x ∧ IsH (h₅.objs.size + 2) h₆ x (.str (turnS (ringS ps) j) t) (.int (j : Int) u)) hl₆ (fun j v e => (hP₆ j v e).2) hF₆
    have hys' : ys.toList.length = ps.length := by simp [hys]
    have B₆ := B₅.stay1 hk₆ ((B.keeps k₄).new (Nat.le_refl _)) ((B.keeps k₄).none (Nat.le_refl _))
    have hk6 : Kp [h₄.objs.size] h₅ h₆ := hk₆
    have k06 : Kp (91 :: own env) h h₆ := (Kp.of k35.all).new hk6 fun b hb _ => by
      rw [List.mem_singleton.mp hb]
      cases e : h.get? h₄.objs.size with
      | none => rfl
      | some o => exact absurd (Heap.lt_size (k₄.all _ _ e)) (Nat.lt_irrefl _)
    have H : Hdls (h₅.objs.size + 2) h₆ ys.toList (turnS (ringS ps)) := fun i v e => by
      obtain ⟨x, t, u, e1, e2⟩ := hyv i v (by simpa using e)
      rw [Nat.zero_add] at e2
      exact ⟨x, t, u, e1, e2⟩
    have lL : env.locals < h₅.objs.size := B₅.ns.lt
    refine wpAny_items_nil (sortH (N := h₅.objs.size + 2) (n := ps.length) (vs := ys.toList) (r := ringS ps) B₆.ns hL (tpB B₆) (k'.less (by decide)) (Nat.lt_of_lt_of_le lL (Nat.le_add_right _ 2)) (by simpa using hD₆.isList) hys' n2 n8 H R.len fun D' h₇ tk₇ ns₇ k₇ lD upD hD₇ => ?_)
    have B₇ := B₆.back k₇ ns₇
    refine B₇.stL fun h₈ B₈ k₈ => ?_
    have k68 : Kp (91 :: own env) h₆ h₈ := (k₇.mono (by intro b hb; rw [List.mem_singleton.mp hb]; simp)).trans (k₈.mono fun b hb => .tail _ hb)
    have nD' : D' ∉ own env := fun q => by
      rcases List.mem_cons.mp q with q | q
      · exact Nat.ne_of_gt lD q
      · obtain ⟨⟨n, c⟩, hc, rfl⟩ := List.mem_map.mp q
        obtain ⟨o, e, _⟩ := B₆.cell n c (lookup_of_mem_nodup B₆.nd hc)
        exact Nat.lt_irrefl _ (upD c o (B₆.above n c hc) e)
    have up : ∀ b ∈ own env, b < h₅.objs.size + 2 := fun b hb => Nat.lt_of_lt_of_le (B₅.lt b hb) (Nat.le_add_right _ 2)
    have l5 : 115 ≤ h₅.objs.size := Nat.le_trans hL (Nat.le_of_lt lL)
    have K := k06.trans k68
    have n91o : 91 ∉ own env := fun q => by have := B.ownNew 91 q; have := T.size; lia
    have l4 : env.locals < h₄.objs.size := (B.keeps k₄).ns.lt
    have tb₆ : TabOk h₆ := (V.tb.kp k35 (by simp)).kp hk6 (notMem1 (Nat.ne_of_lt (Nat.lt_of_lt_of_le (by decide) (Nat.le_trans hL (Nat.le_of_lt l4)))))
    have tb₈ : TabOk h₈ := (tb₆.kp k₇ (notMem1 (Nat.ne_of_lt (Nat.lt_of_lt_of_le (by decide) hL)))).kp k₈ n91o
    refine hQ h₈ _ _ (h₅.objs.size + 2) D' ys.toList (V.to B₈ tb₈ K (if_neg (by decide)) (if_neg (by decide)) rfl rfl rfl) ⟨upd_eq, kpL hD₇ k₈ nD', H.kp k68 fun b hb => ?_, hys', nD', Nat.le_trans hL (Nat.le_of_lt lD), up, Nat.le_trans l5 (Nat.le_add_right _ 2)⟩ K
    rcases List.mem_cons.mp hb with rfl | hb
    · exact Nat.lt_of_lt_of_le (by decide) (Nat.le_trans l5 (Nat.le_add_right _ 2))
    · exact up b hb
end
end Mine
set_option maxHeartbeats 4000000
namespace Mine
local macro_rules | `(tactic| ktr_rel) => `(tactic| first | assumption | exact upd_eq | (refine upd_ne ?_ (by decide); ktr_rel))
inductive RCJ (s : Shared) (env : Env) (m cm : Str → Option Value) (h : Heap) (s' : Shared) : Prop
  | mk (h₂ : Heap) (tk₂ : Nat) (m' cm' : Str → Option Value) (e : s' = { s with heap := h₂, toks := tk₂ }) (B : Bd [91] s.heap env m' cm' h₂) (tb : TabOk h₂) (K : Kp (91 :: own env) h h₂) (S : SameOn ["count", "spread", "rows"] m m') (C : SameOn ["ring", "turns", "pieces"] cm cm') : RCJ s env m cm h s'
section
variable {w : World} {A : Around} {E : Value → Shared → Prop} {s : Shared}
theorem right_c {fd : FuncData} {o : Obj} {L D Ta : Addr} {vs us : List Value} {ps : List Str} {b : Bool} {h : Heap} {tk : Nat} {m cm : Str → Option Value} {N : Nat} {Ra : Addr} {hs : List Value} {Q : Flow → Shared → Prop}
    (ho : (KF w).lookup 109 = some o) (hd : o.data = .func fd) (T : Tp w s.heap) (k' : Ok A 6) (R : RightOk ps b) :
    let env := callEnvC fd L 109
    RV s env ps b D Ta vs us h m cm → RO env ps.length (ringS ps) N Ra hs h m →
    (∀ h' tk m' cm', RV s env ps b D Ta vs us h' m' cm' → RO env ps.length (ringS ps) N Ra hs h' m' → Kp (91 :: own env) h h' →
      wpAny (model pr w) A (execs ((pickDef 13).drop 5) env) Q E { s with heap := h', toks := tk }) →
    wpAny (model pr w) A (execs ((pickDef 13).drop 4) env) Q E { s with heap := h, toks := tk } := by
  cases ho
  cases hd
  intro env V O hQ
  have tpB : ∀ {m cm : Str → Option Value} {h : Heap}, Bd [91] s.heap env m cm h → Tp w h := fun B => T.kp B.keep (fun b hb => .inr (List.mem_singleton.mp hb))
  have n2 := R.two
  have n8 := R.eight
  have B := V.B
  obtain ⟨tc, ec⟩ := V.cnt
  have hL : 115 ≤ env.locals := Nat.le_trans T.size B.fresh
  have n91o : 91 ∉ own env := fun q => by have := B.ownNew 91 q; have := T.size; lia
  have hul : us.length = ps.length := by rw [V.sT.length]; simp
  have usAt : ∀ {j : Nat} {x : Value}, us.toArray[j]? = some x → j < ps.length → ∃ t, x = .str (turnS (ringS ps) j) t := fun {j x} hx hj => by
    obtain ⟨y, hy, hsv⟩ := V.sT.at (i := j) (v := x) (by simpa using hx)
    rw [List.getElem?_map, List.getElem?_range hj] at hy
    cases hy
    exact sv_eq hsv
  refine wpAny_execs_cons (For_ (Ty_ (tpB B) (gn_range w) bb_range (wpAny_items_cons (ldL B.ns (by ktr_rel) (wpAny_items_nil (range1 (N := ps.length) fun h₄ ra t0 u v k₄ hra tk₄ => iterR hra (by decide) (by lia) fun h₅ St W st k₅ z₅ hin => ?_))))))
  have k35 : Kp [] h h₅ := k₄.trans k₅
  have nI : h₄.objs.size ∉ own env := (B.keeps k₄).new (Nat.le_refl _)
  have nI0 : s.heap.get? h₄.objs.size = none := (B.keeps k₄).none (Nat.le_refl _)
  have nIh : h.get? h₄.objs.size = none := by
    cases e : h.get? h₄.objs.size with
    | none => rfl
    | some o => exact absurd (Heap.lt_size (k₄.all _ _ e)) (Nat.lt_irrefl _)
  have l4 : env.locals < h₄.objs.size := (B.keeps k₄).ns.lt
  have I91 : (91 : Nat) ≠ h₄.objs.size := Nat.ne_of_lt (Nat.lt_of_lt_of_le (by decide) (Nat.le_trans hL (Nat.le_of_lt l4)))
  refine ⟨_, _, _, _, _, St, fun _ s' => RCJ s env m cm h s', rfl, W _ k'.hd, st,
    ⟨_, _, _, _, rfl, B.keeps k35, V.tb.kp k35 (by simp), Kp.of k35.all, SameOn.refl _ _, SameOn.refl _ _⟩, ?_, ?_⟩
  · rintro i v h' tk' _ E₂ hlt hst ⟨h₂, tk₂, m', cm', rfl, B₂, tb₂, K₂, S₂, C₂⟩ ⟨ti, rfl⟩ hst' hk
    have hk : Kp [h₄.objs.size] h₂ h' := hk
    have hlt : i < ps.length := hlt
    have B' := B₂.stay1 hk nI nI0
    have K' : Kp (91 :: own env) h h' := K₂.new hk fun b hb _ => by rw [List.mem_singleton.mp hb]; exact nIh
    refine B'.stC fun h₃ B₃ k₃ => ?_
    refine hideQ fun Q' hqq => ?_
    (show wpAny _ _ (execs _ _) _ _ _; refine cut (P := fun st => wpAny _ _ (execs _ _) _ _ st) (h := h₃) (g := Shared.gens s) (d := Shared.drawn s) (o := Shared.os s) fun _ => ?_)
    have tb₃ : TabOk h₃ := (tb₂.kp hk (notMem1 I91)).kp k₃ n91o
    have K₃ : Kp (91 :: own env) h h₃ := K'.trans (k₃.mono fun b hb => .tail _ hb)
    have C₃ : SameOn ["ring", "turns", "pieces"] cm (upd cm' "place" (.int ((0 + i : Nat) : Int) ti)) := C₂.put (by decide)
    have V₃ := V.on B₃ tb₃ K₃ (S₂.sub (by decide)) C₃
    have O₃ := O.to K₃ (S₂ "rows" (by decide))
    have ct := B₃.cellv (n := "turns") rfl V₃.turns
    have cp := B₃.cellv (n := "place") rfl upd_eq
    have TT : h₃.PlainList Ta us.toArray := V₃.LT
    obtain ⟨tc₃, ec₃⟩ := V₃.cnt
    have st3 : St (i + 1) h₃ := (W A k'.hd).frame _ _ _ hst' fun b hb o e => k₃ b o (by rw [List.mem_singleton.mp hb]; exact nI) e
    refine wpAny_execs_cons (CompA_ (X := [91]) (h₀ := s.heap) (m := m') (cm := upd cm' "place" (.int ((0 + i : Nat) : Int) ti)) (Ty_ (tpB B₃) (gn_range w) bb_range (wpAny_items_cons (ldL B₃.ns (by ktr_rel) (wpAny_items_nil (range1 (N := ps.length) fun h₆ ra t0 u v k₆ hra tk₆ => iterR hra (by decide) (by lia) fun h₇ St₇ W₇ st₇ k₇ z₇ hin₇ => ?_))))))
    have k37 : Kp [] h₃ h₇ := k₆.trans k₇
    have B₇ := B₃.keeps k37
    have nJ : h₆.objs.size ∉ own env := (B₃.keeps k₆).new (Nat.le_refl _)
    have nJ0 : s.heap.get? h₆.objs.size = none := (B₃.keeps k₆).none (Nat.le_refl _)
    refine ⟨_, _, _, _, _, St₇, fun v => tupLt (ringS ps) (natOf v) i, fun _ v y => True, rfl, Walks.below (W₇ _ k'.hd), st₇, ?_, B₇, fun b hb q => nJ (by rw [← List.mem_singleton.mp q]; exact hb), fun b q _ => by rw [List.mem_singleton.mp q]; exact nJ0, ?_⟩
    · have kk : ∀ {hh : Heap}, Kp [h₆.objs.size] h₇ hh → Kp [] h₃ hh := fun hk b o _ e => hk b o (notMem1 (Nat.ne_of_lt (Heap.lt_size (k₆.all _ _ e)))) (k37.all _ _ e)
      refine ⟨by rw [sizeLine_eq]; lia, fun b hb => by rw [List.mem_singleton.mp hb]; exact Nat.lt_of_lt_of_eq (Nat.lt_succ_self _) z₇.symm, fun _ _ _ _ _ _ _ q => q, fun C j v s₃ m₃ E₃ hC hv hn hm hk hsz _ => ?_, fun C j v s₃ m₃ E₃ hC hv hp hn hm hk hsz _ => ldL hn hm ⟨trivial, keepsT _ _⟩⟩
      obtain ⟨hjn, tj, rfl⟩ := hv
      have hjn : j < ps.length := hjn
      have k3 := kk hk
      have ct3 := isCell_kp ct k3
      have cp3 := isCell_kp cp k3
      have TT3 := kpL TT k3 (by simp)
      refine wpAny_tests_one (wpAny_isTrue_Compare1 (wpAny_Tuple (wpAny_items_cons (Sub1_ (ldC ct3 (ldL hn hm ⟨Ta, us.toArray, _, _, rfl, rfl, TT3.isList, by lia, by rw [List.size_toArray, hul]; lia, by rw [List.size_toArray, sizeLine_eq]; lia, fun x hx => ?_⟩))))))
      rw [if_neg (by lia), Int.toNat_natCast] at hx
      obtain ⟨t1, rfl⟩ := usAt hx (by lia)
      refine wpAny_items_cons (ldL hn hm (wpAny_items_nil ⟨by show 2 ≤ sizeLine; decide, ?_⟩))
      have kp : Kp [] s₃.heap (s₃.heap.push { cls := .type "tuple", data := .seq [Value.str (turnS (ringS ps) (0 + j)) t1, Value.int ((0 + j : Nat) : Int) tj].toArray }) := Kp.push _ _ _
      refine wpAny_Tuple (wpAny_items_cons (Sub1_ (ldC (isCell_kp ct3 kp) (ldC (isCell_kp cp3 kp) ⟨Ta, us.toArray, _, _, rfl, rfl, (kpL TT3 kp (by simp)).isList, by lia, by rw [List.size_toArray, hul]; lia, by rw [List.size_toArray, sizeLine_eq]; lia, fun x hx => ?_⟩)))) 
      rw [if_neg (by lia), Int.toNat_natCast] at hx
      obtain ⟨t2, rfl⟩ := usAt hx (by lia)
      refine wpAny_items_cons (ldC (isCell_kp cp3 kp) (wpAny_items_nil ⟨by show 2 ≤ sizeLine; decide, ?_⟩))
      refine pairLt (x := turnS (ringS ps) (0 + j)) (y := turnS (ringS ps) (0 + i)) (i := ((0 + j : Nat) : Int)) (j := ((0 + i : Nat) : Int)) (t := t1) (u := tj) (t' := t2) (u' := ti) ⟨_, Heap.get?_push_of_some _ (Heap.get?_push_size _ rfl), rfl, _, rfl⟩ ⟨_, Heap.get?_push_size _ rfl, rfl, _, rfl⟩ k'.units (wpAny_truthy_bool ⟨?_, keepsH fun b o e => Heap.get?_push_of_some _ (Heap.get?_push_of_some _ e)⟩)
      show _ = tupLt (ringS ps) (natOf (.int ((0 + j : Nat) : Int) tj)) i
      unfold tupLt natOf
      simp
    · intro h₈ tk₈ ys vs₈ hD₈ hl₈ hP₈ hF₈ B₈ hk₈
      have hk8 : Kp ([h₆.objs.size] ++ own env) h₇ h₈ := hk₈
      have nJ3 : h₃.get? h₆.objs.size = none := by
        cases e : h₃.get? h₆.objs.size with
        | none => rfl
        | some o => exact absurd (Heap.lt_size (k₆.all _ _ e)) (Nat.lt_irrefl _)
      have k38 : Kp (91 :: own env) h₃ h₈ := (Kp.of k37.all).new hk8 fun b hb n => by
        rcases List.mem_append.mp hb with hb | hb
        · rw [List.mem_singleton.mp hb]; exact nJ3
        · exact absurd (List.mem_cons_of_mem _ hb) n
      have K₈ := K₃.trans k38
      have J91 : (91 : Nat) ≠ h₆.objs.size := Nat.ne_of_lt (Nat.lt_of_lt_of_le (by decide) (Nat.le_trans hL (Nat.le_of_lt (B₃.keeps k₆).ns.lt)))
      have tb₈ : TabOk h₈ := (tb₃.kp k37 (by simp)).kp hk8 (by
        intro q
        rcases List.mem_append.mp q with q | q
        · exact J91 (List.mem_singleton.mp q)
        · exact n91o q)
      have S₈ : SameOn ["count", "spread", "rows"] m (upd m' "ahead" (.ref h₇.objs.size)) := S₂.put (by decide)
      have V₈ := V.on B₈ tb₈ K₈ (S₈.sub (by decide)) C₃
      have O₈ := O.to K₈ (S₈ "rows" (by decide))
      have hys : ys.size = aheadN (ringS ps) ps.length i := by
        have e1 := Paired.len' hF₈
        have e2 := filter_natOf (fun o => tupLt (ringS ps) o i) (n := ps.length) hl₈ fun j v e => (hP₈ j v e).2
        unfold aheadN
        rw [← e2, e1]; simp
      have hget := R.ahead i hlt
      have lI : h₄.objs.size < h₆.objs.size := hin (i + 1) _ ((W A k'.hd).frame _ _ _ st3 fun b _ o e => k₆.all _ _ e)
      have st8 : St (i + 1) h₈ := (W A k'.hd).frame _ _ _ ((W A k'.hd).frame _ _ _ st3 fun b _ o e => k37.all _ _ e) fun b hb o e => hk8 b o (by
        rw [List.mem_singleton.mp hb]
        intro q
        rcases List.mem_append.mp q with q | q
        · exact Nat.ne_of_lt lI (List.mem_singleton.mp q)
        · exact nI q) e
      (show wpAny _ _ (execs _ _) _ _ _; refine cut (P := fun st => wpAny _ _ (execs _ _) _ _ st) (h := h₈) (g := Shared.gens s) (d := Shared.drawn s) (o := Shared.os s) fun _ => ?_)
      have hpl : ((permR (ringS ps) ps.length).map fun i => hs.getD i Value.none).length = ps.length := by rw [List.length_map, R.len]
      have cp8 := B₈.cellv (n := "place") rfl upd_eq
      refine wpAny_execs_cons (wpAny_If (wpAny_isTrue_Compare1 (AttrT_ (Sub1_ (ldL B₈.ns O₈.v (Bi_ (tpB B₈) (gn_len w) bb_len (wpAny_items_cons (ldL B₈.ns upd_eq (wpAny_items_nil (len_list (by simpa using hD₈.isList) (by rw [hys]; have := (List.getElem?_eq_some_iff.mp hget).1; rw [R.len] at this; lia) ⟨_, _, _, _, rfl, rfl, O₈.l.isList, by lia, ?_, by rw [List.size_toArray, hpl, sizeLine_eq]; lia, fun x hx => ?_⟩))))))))))
      · have := (List.getElem?_eq_some_iff.mp hget).1
        rw [R.len] at this
        simp only [List.size_toArray, hpl, Array.length_toList, hys]; lia
      rw [if_neg (by lia), Int.toNat_natCast] at hx
      simp only [List.size_toArray, Array.length_toList, hys] at hx
      have hx' : x = hs.getD i Value.none := by
        simp only [List.getElem?_toArray, List.getElem?_map, hget, Option.map_some] at hx
        exact (Option.some.inj hx).symm
      have hi : i < hs.length := by rw [O.len]; exact hlt
      obtain ⟨y, t1, t2, e1, i1⟩ := O₈.H i hs[i] (List.getElem?_eq_getElem hi)
      have e0 : hs.getD i Value.none = .ref y := by rw [List.getD_eq_getElem?_getD, List.getElem?_eq_getElem hi, Option.getD_some, e1]
      rw [hx', e0]
      refine getH2 B₈.ns (tpB B₈) hL i1 rfl (ldC cp8 (P.ne_int (wpAny_truthy_bool ?_)))
      rw [if_neg (by simp)]
      exact wpAny_execs_nil (wpAny_execs_nil (hqq _ _ ⟨st8, _, _, _, _, rfl, B₈, tb₈, K₈, S₈, C₃⟩))
  · rintro _ h' tk' _ ⟨h₂, tk₂, m', cm', rfl, B₂, tb₂, K₂, S₂, C₂⟩ hk
    have hk : Kp [h₄.objs.size] h₂ h' := hk
    have K' : Kp (91 :: own env) h h' := K₂.new hk fun b hb _ => by rw [List.mem_singleton.mp hb]; exact nIh
    exact hQ h' tk' m' cm' (V.on (B₂.stay1 hk nI nI0) (tb₂.kp hk (notMem1 I91)) K' (S₂.sub (by decide)) C₂) (O.to K' (S₂ "rows" (by decide))) K'
end
end Mine
set_option maxHeartbeats 4000000
namespace Mine
local macro_rules | `(tactic| ktr_rel) => `(tactic| first | assumption | exact upd_eq | (refine upd_ne ?_ (by decide); ktr_rel))
theorem IsH.uniq {N N' : Nat} {h : Heap} {x : Addr} {o p o' p' : Value} (i : IsH N h x o p) (j : IsH N' h x o' p') : o = o' ∧ p = p' := by
  obtain ⟨dx, es, n, _, _, a, b, c, d⟩ := i
  obtain ⟨dx', es', n', _, _, a', b', c', d'⟩ := j
  rw [a] at a'; cases a'
  rw [b] at b'; cases b'
  rw [c] at c'; cases c'
  rw [d] at d'; cases d'
  exact ⟨rfl, rfl⟩
/-- the i-th handler -/
def Rw (N : Nat) (h : Heap) (r : Str) (v : Value) (i : Nat) : Prop := ∃ x t u, v = .ref x ∧ IsH N h x (.str (turnS r i) t) (.int (i : Int) u)
theorem Rw.uniq {N : Nat} {h : Heap} {r : Str} {v : Value} {i j : Nat} (a : Rw N h r v i) (b : Rw N h r v j) : i = j := by
  obtain ⟨x, t, u, rfl, a⟩ := a
  obtain ⟨y, t', u', e, b⟩ := b
  cases e
  have := (a.uniq b).2
  injection this with e
  lia
theorem RO.at {env : Env} {n : Nat} {r : Str} {N : Nat} {Ra : Addr} {hs : List Value} {h : Heap} {m : Str → Option Value} (R : RO env n r N Ra hs h m) (low : ∀ i ∈ permR r n, i < n) {j : Nat} {v : Value}
    (e : (List.toArray ((permR r n).map fun i => hs.getD i Value.none))[j]? = some v) : ∃ i, (permR r n)[j]? = some i ∧ Rw N h r v i := by
  rw [List.getElem?_toArray, List.getElem?_map] at e
  cases hp : (permR r n)[j]? with
  | none => rw [hp] at e; cases e
  | some i =>
    rw [hp, Option.map_some] at e
    have hi : i < hs.length := by rw [R.len]; exact low i (List.mem_of_getElem? hp)
    obtain ⟨x, t, u, e1, e2⟩ := R.H i hs[i] (List.getElem?_eq_getElem hi)
    refine ⟨i, rfl, x, t, u, ?_, e2⟩
    rw [← Option.some.inj e, List.getD_eq_getElem?_getD, List.getElem?_eq_getElem hi, Option.getD_some, e1]
theorem RO.made {env : Env} {n : Nat} {r : Str} {N : Nat} {Ra : Addr} {hs : List Value} {h : Heap} {m : Str → Option Value} (R : RO env n r N Ra hs h m) (low : ∀ i ∈ permR r n, i < n) {G : Nat → Value → Prop} {vs : List Value} {ys : Array Value}
    (hl : vs.length = (List.toArray ((permR r n).map fun i => hs.getD i Value.none)).size) (hP : ∀ (j : Nat) (v : Value), vs[j]? = some v → (List.toArray ((permR r n).map fun i => hs.getD i Value.none))[j]? = some v)
    (hF : Paired (fun v y => ∃ i, Rw N h r v i ∧ G i y) (vs.filter fun _ => true) ys.toList) : ys.size = (permR r n).length ∧ ∀ (j : Nat) (y : Value), ys[j]? = some y → ∃ i, (permR r n)[j]? = some i ∧ G i y := by
  rw [List.filter_eq_self.mpr (fun _ _ => rfl)] at hF
  have e1 := Paired.len' hF
  rw [hl] at e1
  refine ⟨by simpa using e1.symm, fun j y e => ?_⟩
  obtain ⟨v, ev, i, a, g⟩ := Paired.at' hF (j := j) (y := y) (by simpa using e)
  obtain ⟨i', hp, b⟩ := R.at low (hP j v ev)
  rw [a.uniq b] at g
  exact ⟨i', hp, g⟩
theorem strs_of {f : Nat → Str} {p : List Nat} {ys : List Value} (hl : ys.length = p.length) (h : ∀ (j : Nat) (y : Value), ys[j]? = some y → ∃ i, p[j]? = some i ∧ ∃ t, y = Value.str (f i) t) : Strs ys (p.map f) := by
  unfold Strs
  apply List.ext_getElem?
  intro j
  rw [List.getElem?_map, List.getElem?_map, List.getElem?_map]
  by_cases hj : j < p.length
  · obtain ⟨i, e1, t, e2⟩ := h j ys[j] (List.getElem?_eq_getElem (by lia))
    rw [List.getElem?_eq_getElem (by lia), e1, e2]; rfl
  · rw [List.getElem?_eq_none (by lia), List.getElem?_eq_none (by lia)]; rfl
/-- column -/
structure RL (env : Env) (n : Nat) (r : Str) (Ca : Addr) (cs : List Value) (h : Heap) (m : Str → Option Value) : Prop where
  v : m "column" = some (.ref Ca)
  l : h.PlainList Ca cs.toArray
  sc : Strs cs (colR r n)
  nC : Ca ∉ own env
  lC : 115 ≤ Ca
theorem RL.to {env : Env} {n : Nat} {r : Str} {Ca : Addr} {cs : List Value} {h h' : Heap} {m m' : Str → Option Value} (R : RL env n r Ca cs h m) (k : Kp (91 :: own env) h h') (e : m' "column" = m "column") : RL env n r Ca cs h' m' :=
  ⟨e.trans R.v, kpL R.l k (n91 R.lC R.nC), R.sc, R.nC, R.lC⟩
section
variable {w : World} {A : Around} {E : Value → Shared → Prop} {s : Shared}
theorem right_e {fd : FuncData} {o : Obj} {L D Ta : Addr} {vs us : List Value} {ps : List Str} {b : Bool} {h : Heap} {tk : Nat} {m cm : Str → Option Value} {N : Nat} {Ra : Addr} {hs : List Value} {Q : Flow → Shared → Prop}
    (ho : (KF w).lookup 109 = some o) (hd : o.data = .func fd) (T : Tp w s.heap) (k' : Ok A 6) (R : RightOk ps b) :
    let env := callEnvC fd L 109
    RV s env ps b D Ta vs us h m cm → RO env ps.length (ringS ps) N Ra hs h m →
    (∀ h' tk m' Ca cs, RV s env ps b D Ta vs us h' m' cm → RO env ps.length (ringS ps) N Ra hs h' m' → RL env ps.length (ringS ps) Ca cs h' m' → Kp (91 :: own env) h h' →
      wpAny (model pr w) A (execs ((pickDef 13).drop 6) env) Q E { s with heap := h', toks := tk }) →
    wpAny (model pr w) A (execs ((pickDef 13).drop 5) env) Q E { s with heap := h, toks := tk } := by
  cases ho
  cases hd
  intro env V O hQ
  have tpB : ∀ {m cm : Str → Option Value} {h : Heap}, Bd [91] s.heap env m cm h → Tp w h := fun B => T.kp B.keep (fun b hb => .inr (List.mem_singleton.mp hb))
  have n2 := R.two
  have n8 := R.eight
  have B := V.B
  have hL : 115 ≤ env.locals := Nat.le_trans T.size B.fresh
  have hrl := ringS_len fun p hp => (R.fits p hp).1
  have n91o : 91 ∉ own env := fun q => by have := B.ownNew 91 q; have := T.size; lia
  have hpl : ((permR (ringS ps) ps.length).map fun i => hs.getD i Value.none).length = ps.length := by rw [List.length_map, R.len]
  refine wpAny_execs_cons (CompA_ (X := [91]) (h₀ := s.heap) (m := m) (cm := cm) (ldL B.ns O.v (iterL O.l.isList fun o St W st _ => ⟨_, _, _, _, _, St, fun _ => true, fun _ v y => ∃ i, Rw N h (ringS ps) v i ∧ (fun i y => i < ps.length ∧ ∃ t, y = Value.str (lastC (turnS (ringS ps) i)) t) i y, rfl, W _ k'.hd, st, ?_, B.keeps (Kp.push _ _ _), ?_, ?_, ?_⟩)))
  · refine ⟨by rw [List.size_toArray, hpl, sizeLine_eq]; lia, fun b hb => ?_, fun _ _ _ _ _ _ _ q => q, fun C i v s₃ m₃ E₃ _ _ _ _ _ _ _ => noTests (v := v), fun C j v s₃ m₃ E₃ hC hv _ hn hm hk hsz _ => ?_⟩
    · show b < (Heap.push _ _).objs.size
      rw [Heap.size_push]
      rcases List.mem_cons.mp hb with rfl | hb
      · exact Nat.lt_succ_self _
      · rw [List.mem_singleton.mp hb]; exact Nat.lt_succ_of_lt (plain_lt O.l)
    · have k3 : Kp [] h s₃.heap := fun b o _ e => hk b o (notMem1 (Nat.ne_of_lt (Heap.lt_size e))) (Heap.get?_push_of_some _ e)
      have T₃ : Tp w s₃.heap := (tpB B).kp k3 Far.nil
      obtain ⟨i, hp, rw0⟩ := O.at R.low (j := j) (v := v) hv
      have hi := R.low i (List.mem_of_getElem? hp)
      obtain ⟨x, t, u, rfl, ih⟩ := id rw0
      have ih3 := ih.kp k3 (fun _ q => nomatch q)
      have hC' : 115 ≤ C := Nat.le_trans hL (Nat.le_trans (Nat.le_of_lt B.ns.lt) (Nat.le_trans (by show h.objs.size ≤ (Heap.push _ _).objs.size; rw [Heap.size_push]; exact Nat.le_succ _) hC))
      have tl := turnS_len (r := ringS ps) (i := i) (by lia)
      refine SubS_ (AttrT_ (ldL hn hm (getH1 hn T₃ hC' ih3 rfl (wpAny_UnaryOp (wpAny_Constant_int (P.neg_int ⟨turnS (ringS ps) i, t, -1, _, rfl, rfl, by lia, by lia, by rw [sizeLine_eq]; lia, fun c t' tk' hc => ⟨⟨i, rw0, hi, t', ?_⟩, keepsT _ _⟩⟩))))))
      rw [if_pos (by decide), tl, hrl] at hc
      unfold lastC
      rw [tl, hrl]
      have e : (turnS (ringS ps) i).cps.toList.drop (ps.length - 1) = [c] := by
        have hc' : (turnS (ringS ps) i).cps.toList[ps.length - 1]? = some c := by
          rw [show ((-1 : Int) + (ps.length : Int)).toNat = ps.length - 1 by lia] at hc
          simpa using hc
        have hl : (turnS (ringS ps) i).cps.toList.length = ps.length := by
          rw [← hrl, ← tl]; simp [Str.length]
        apply List.ext_getElem?
        intro q
        rw [List.getElem?_drop]
        cases q with
        | zero => simpa using hc'
        | succ q => rw [List.getElem?_eq_none (by lia)]; simp
      rw [e]
  · intro b hb q
    rw [List.mem_singleton.mp q] at hb
    exact B.new (Nat.le_refl _) hb
  · intro b hb _
    rw [List.mem_singleton.mp hb]
    exact B.none (Nat.le_refl _)
  intro h₄ tk₄ ys vs₄ S₄ hl₄ hP₄ hF₄ B₄ k₄
  obtain ⟨e1, e2⟩ := O.made R.low hl₄ hP₄ hF₄
  have k4 : Kp (91 :: own env) h h₄ := by
    refine (Kp.of (X := 91 :: own env) (h := h) fun b o e => Heap.get?_push_of_some _ e).new k₄ fun b hb n => ?_
    rcases List.mem_append.mp hb with hb | hb
    · rw [List.mem_singleton.mp hb]; exact get_none (Nat.le_refl _)
    · exact absurd (List.mem_cons_of_mem _ hb) n
  have lh : 115 ≤ h.objs.size := Nat.le_trans hL (Nat.le_of_lt B.ns.lt)
  have tb₄ : TabOk h₄ := (V.tb.kp (Kp.push [] _ _) (by simp)).kp k₄ (by
    intro q
    rcases List.mem_append.mp q with q | q
    · have e := List.mem_singleton.mp q
      exact absurd (e ▸ lh : 115 ≤ 91) (by decide)
    · exact n91o q)
  have nC : h.objs.size + 1 ∉ own env := B.new (Nat.le_succ _)
  (show wpAny _ _ (execs _ _) _ _ _; refine cut (P := fun st => wpAny _ _ (execs _ _) _ _ st) (h := h₄) (g := Shared.gens s) (d := Shared.drawn s) (o := Shared.os s) fun _ => ?_)
  refine hQ h₄ _ _ (h.objs.size + 1) ys.toList (V.on B₄ tb₄ k4 ((SameOn.refl _ _).put (by decide)) (SameOn.refl _ _)) (O.to k4 (if_neg (by decide))) ⟨?_, ?_, ?_, nC, Nat.le_succ_of_le lh⟩ k4
  · have : upd m "column" (.ref (h.push o).objs.size) "column" = some (.ref (h.push o).objs.size) := upd_eq
    rw [Heap.size_push] at this
    simpa [Heap.size_push] using this
  · have := S₄
    rw [Heap.size_push] at this
    simpa using this
  · exact strs_of (by simpa using e1) fun j y e => by
      obtain ⟨i, a, _, c⟩ := e2 j y (by simpa using e)
      exact ⟨i, a, c⟩
end
end Mine
set_option maxHeartbeats 4000000
namespace Mine
local macro_rules | `(tactic| ktr_rel) => `(tactic| first | assumption | exact upd_eq | (refine upd_ne ?_ (by decide); ktr_rel))
def stabN (r : Str) (n i : Nat) : List Bearer := (List.range i).foldl (fun bs i => putB ⟨(colR r n).getD i ⟨#[]⟩, i⟩ bs) []
theorem stabN_succ (r : Str) (n i : Nat) : stabN r n (i + 1) = putB ⟨(colR r n).getD i ⟨#[]⟩, i⟩ (stabN r n i) := by unfold stabN; rw [List.range_succ, List.foldl_append]; rfl
theorem putB_len (b : Bearer) : ∀ bs, (putB b bs).length = bs.length + 1
  | [] => rfl
  | e :: r => by unfold putB; split <;> simp [putB_len b r]
theorem putB_mem (b : Bearer) : ∀ bs x, x ∈ putB b bs → x = b ∨ x ∈ bs
  | [], x, h => .inl (List.mem_singleton.mp h)
  | e :: r, x, h => by
    unfold putB at h
    split at h
    · rcases List.mem_cons.mp h with h | h
      · exact .inl h
      · exact .inr h
    · rcases List.mem_cons.mp h with h | h
      · exact .inr (h ▸ .head _)
      · rcases putB_mem b r x h with h | h
        · exact .inl h
        · exact .inr (.tail _ h)
theorem stabN_len (r : Str) (n : Nat) : ∀ i, (stabN r n i).length = i
  | 0 => rfl
  | i + 1 => by rw [stabN_succ, putB_len, stabN_len r n i]
theorem stabN_low (r : Str) (n : Nat) : ∀ i, ∀ b ∈ stabN r n i, b.place < i
  | 0, b, h => by cases h
  | i + 1, b, h => by
    rw [stabN_succ] at h
    rcases putB_mem _ _ b h with rfl | h
    · exact Nat.lt_succ_self _
    · exact Nat.lt_succ_of_lt (stabN_low r n i b h)
/-- stable -/
structure RT (env : Env) (M : Nat) (Sa : Addr) (ws : List Value) (bs : List Bearer) (h : Heap) (m : Str → Option Value) : Prop where
  v : m "stable" = some (.ref Sa)
  l : h.PlainList Sa ws.toArray
  row : Row M h ws bs
  nS : Sa ∉ own env
  lS : 115 ≤ Sa
  up : ∀ b ∈ own env, b < M
  lo : 115 ≤ M
theorem RT.low {env : Env} {M : Nat} {Sa : Addr} {ws : List Value} {bs : List Bearer} {h : Heap} {m : Str → Option Value} (R : RT env M Sa ws bs h m) : ∀ b ∈ (91 : Addr) :: own env, b < M := fun b hb => by
  rcases List.mem_cons.mp hb with rfl | hb
  · exact Nat.lt_of_lt_of_le (by decide) R.lo
  · exact R.up b hb
theorem RT.to {env : Env} {M : Nat} {Sa : Addr} {ws : List Value} {bs : List Bearer} {h h' : Heap} {m m' : Str → Option Value} (R : RT env M Sa ws bs h m) (k : Kp (91 :: own env) h h') (e : m' "stable" = m "stable") : RT env M Sa ws bs h' m' :=
  ⟨e.trans R.v, kpL R.l k (n91 R.lS R.nS), R.row.kp k R.low, R.nS, R.lS, R.up, R.lo⟩
inductive RFJ (s : Shared) (env : Env) (m cm : Str → Option Value) (h : Heap) (r : Str) (n M I i : Nat) (s' : Shared) : Prop
  | mk (h₂ : Heap) (tk₂ : Nat) (m' cm' : Str → Option Value) (Sa : Addr) (ws : List Value) (e : s' = { s with heap := h₂, toks := tk₂ }) (B : Bd [91] s.heap env m' cm' h₂) (tb : TabOk h₂) (K : Kp (91 :: own env) h h₂) (S : SameOn ["count", "spread", "rows", "column"] m m') (C : SameOn ["ring", "turns", "pieces"] cm cm')
    (R : RT env M Sa ws (stabN r n i) h₂ m') (ne : Sa ≠ I) (z : M ≤ h₂.objs.size) : RFJ s env m cm h r n M I i s'
section
variable {w : World} {A : Around} {E : Value → Shared → Prop} {s : Shared}
theorem right_f {fd : FuncData} {o : Obj} {L D Ta : Addr} {vs us : List Value} {ps : List Str} {b : Bool} {h : Heap} {tk : Nat} {m cm : Str → Option Value} {N : Nat} {Ra : Addr} {hs : List Value} {Ca : Addr} {cs : List Value} {Q : Flow → Shared → Prop}
    (ho : (KF w).lookup 109 = some o) (hd : o.data = .func fd) (T : Tp w s.heap) (k' : Ok A 6) (R : RightOk ps b) :
    let env := callEnvC fd L 109
    RV s env ps b D Ta vs us h m cm → RO env ps.length (ringS ps) N Ra hs h m → RL env ps.length (ringS ps) Ca cs h m →
    (∀ h' tk m' cm' M Sa ws, RV s env ps b D Ta vs us h' m' cm' → RO env ps.length (ringS ps) N Ra hs h' m' → RL env ps.length (ringS ps) Ca cs h' m' → RT env M Sa ws (stabN (ringS ps) ps.length ps.length) h' m' → Kp (91 :: own env) h h' →
      wpAny (model pr w) A (execs ((pickDef 13).drop 9) env) Q E { s with heap := h', toks := tk }) →
    wpAny (model pr w) A (execs ((pickDef 13).drop 6) env) Q E { s with heap := h, toks := tk } := by
  cases ho
  cases hd
  intro env V O C hQ
  have tpB : ∀ {m cm : Str → Option Value} {h : Heap}, Bd [91] s.heap env m cm h → Tp w h := fun B => T.kp B.keep (fun b hb => .inr (List.mem_singleton.mp hb))
  have n2 := R.two
  have n8 := R.eight
  have B := V.B
  have hL : 115 ≤ env.locals := Nat.le_trans T.size B.fresh
  have n91o : 91 ∉ own env := fun q => by have := B.ownNew 91 q; have := T.size; lia
  have lh : 115 ≤ h.objs.size := Nat.le_trans hL (Nat.le_of_lt B.ns.lt)
  have hcl : (colR (ringS ps) ps.length).length = ps.length := by unfold colR; rw [List.length_map, R.len]
  have hcs : cs.length = ps.length := by rw [C.sc.length, hcl]
  refine wpAny_execs_cons (wpAny_Assign_Name (wpAny_List (wpAny_items_cons (wpAny_Constant_str (wpAny_items_nil ⟨by show 1 ≤ sizeLine; decide, (B.keeps (Kp.push _ _ _)).stL fun h₁ B₁ k₁ => ?_⟩)))))
  (show wpAny _ _ (execs _ _) _ _ _; refine cut (P := fun st => wpAny _ _ (execs _ _) _ _ st) (h := h₁) (g := Shared.gens s) (d := Shared.drawn s) (o := Shared.os s) fun _ => ?_)
  have k01 : Kp (91 :: own env) h h₁ := ((Kp.push [] _ _).mono (by simp)).trans (k₁.mono fun b hb => .tail _ hb)
  have tb₁ : TabOk h₁ := (V.tb.kp (Kp.push [] _ _) (by simp)).kp k₁ n91o
  have S1 : SameOn ["count", "spread", "rows", "column"] m (upd m "stable" (.ref h.objs.size)) := (SameOn.refl _ _).put (by decide)
  have V₁ := V.on B₁ tb₁ k01 (S1.sub (by decide)) (SameOn.refl _ _)
  have nS : h.objs.size ∉ own env := B.new (Nat.le_refl _)
  obtain ⟨xt, hl₁⟩ : ∃ xt, h₁.PlainList h.objs.size (List.toArray [Value.str "an outsider" xt]) := ⟨_, kpL (a := h.objs.size) ⟨_, Heap.get?_push_size _ rfl⟩ k₁ nS⟩
  obtain ⟨tc, ec⟩ := V₁.cnt
  refine wpAny_execs_cons (For_ (Ty_ (tpB B₁) (gn_range w) bb_range (wpAny_items_cons (ldL B₁.ns (by ktr_rel) (wpAny_items_nil (range1 (N := ps.length) fun h₄ ra t0 u v k₄ hra tk₄ => iterR hra (by decide) (by lia) fun h₅ St W st k₅ z₅ hin => ?_))))))
  have k15 : Kp [] h₁ h₅ := k₄.trans k₅
  have l05 : h.objs.size ≤ h₅.objs.size := Nat.le_of_lt (plain_lt (kpL hl₁ k15 (by simp)))
  have I5 : h₄.objs.size < h₅.objs.size := Nat.lt_of_lt_of_eq (Nat.lt_succ_self _) z₅.symm
  have RT₁ : RT env h₅.objs.size h.objs.size [Value.str "an outsider" xt] (stabN (ringS ps) ps.length 0) h₁ (upd m "stable" (.ref h.objs.size)) := ⟨upd_eq, hl₁, Row.nil, nS, lh, fun b hb => Nat.lt_of_lt_of_le (B.lt b hb) l05, Nat.le_trans lh l05⟩
  have nI : h₄.objs.size ∉ own env := (B₁.keeps k₄).new (Nat.le_refl _)
  have nI0 : s.heap.get? h₄.objs.size = none := (B₁.keeps k₄).none (Nat.le_refl _)
  have lh4 : h.objs.size < h₄.objs.size := by obtain ⟨_, e⟩ := hl₁; exact Heap.lt_size (k₄.all _ _ e)
  have nIh : h.get? h₄.objs.size = none := get_none (Nat.le_of_lt lh4)
  have I91 : (91 : Nat) ≠ h₄.objs.size := Nat.ne_of_lt (Nat.lt_of_lt_of_le (by decide) (Nat.le_trans lh (Nat.le_of_lt lh4)))
  refine ⟨_, _, _, _, _, St, fun i s' => RFJ s env m cm h (ringS ps) ps.length h₅.objs.size h₄.objs.size i s', rfl, W _ k'.hd, st,
    ⟨_, _, _, _, _, _, rfl, B₁.keeps k15, tb₁.kp k15 (by simp), k01.trans (k15.mono (by simp)), S1, SameOn.refl _ _, RT₁.to (k15.mono (by simp)) rfl, Nat.ne_of_lt lh4, Nat.le_refl _⟩, ?_, ?_⟩
  · rintro i v h' tk' _ E₂ hlt hst ⟨h₂, tk₂, m', cm', Sa, ws, rfl, B₂, tb₂, K₂, S₂, C₂, R₂, nSI, z₂⟩ ⟨ti, rfl⟩ hst' hk
    have hk : Kp [h₄.objs.size] h₂ h' := hk
    have hlt : i < ps.length := hlt
    have B' := B₂.stay1 hk nI nI0
    have K' : Kp (91 :: own env) h h' := K₂.new hk fun b hb _ => by rw [List.mem_singleton.mp hb]; exact nIh
    refine B'.stC fun h₃ B₃ k₃ => ?_
    refine hideQ fun Q' hqq => ?_
    (show wpAny _ _ (execs _ _) _ _ _; refine cut (P := fun st => wpAny _ _ (execs _ _) _ _ st) (h := h₃) (g := Shared.gens s) (d := Shared.drawn s) (o := Shared.os s) fun _ => ?_)
    have tb₃ : TabOk h₃ := (tb₂.kp hk (notMem1 I91)).kp k₃ n91o
    have K₃ : Kp (91 :: own env) h h₃ := K'.trans (k₃.mono fun b hb => .tail _ hb)
    have C₃ : SameOn ["ring", "turns", "pieces"] cm (upd cm' "place" (.int ((0 + i : Nat) : Int) ti)) := C₂.put (by decide)
    have cp := B₃.cellv (n := "place") rfl upd_eq
    have st3 : St (i + 1) h₃ := (W A k'.hd).frame _ _ _ hst' fun b hb o e => k₃ b o (by rw [List.mem_singleton.mp hb]; exact nI) e
    have L3 : h₃.PlainList Sa ws.toArray := kpL (kpL R₂.l hk (notMem1 nSI)) k₃ R₂.nS
    have upI : ∀ b ∈ [h₄.objs.size], b < h₅.objs.size := fun b hb => by rw [List.mem_singleton.mp hb]; exact I5
    have row3 : Row h₅.objs.size h₃ ws (stabN (ringS ps) ps.length i) := (R₂.row.kp hk upI).kp k₃ R₂.up
    have S₃ : SameOn ["count", "spread", "rows", "column"] m m' := S₂
    have v3 : m' "stable" = some (.ref Sa) := R₂.v
    have C3 := C.to K₃ (S₃ "column" (by decide))
    have h53 : h₅.objs.size ≤ h₃.objs.size := by
      have e1 : h₄.objs.size < h₃.objs.size := hin (i + 1) _ st3
      rw [z₅]; exact e1
    refine wpAny_execs_cons (wpAny_Assign_Name (Fn_ (tpB B₃) (gl_94 w) (by kernel_rfl) (wpAny_items_cons (ldL B₃.ns (by ktr_rel) (wpAny_items_cons (Sub1_ (ldL B₃.ns C3.v (ldC cp ⟨_, _, _, _, rfl, rfl, C3.l.isList, by lia, by rw [List.size_toArray]; lia, by rw [List.size_toArray, sizeLine_eq]; lia, fun x hx => ?_⟩))))))))
    rw [if_neg (by lia), Int.toNat_natCast] at hx
    obtain ⟨y, hy, hsv⟩ := C3.sc.at (i := 0 + i) (v := x) (by simpa using hx)
    obtain ⟨tt, rfl⟩ := sv_eq hsv
    have ey : y = (colR (ringS ps) ps.length).getD i ⟨#[]⟩ := by
      rw [Nat.zero_add] at hy
      rw [List.getD_eq_getElem?_getD, hy]; rfl
    refine wpAny_items_cons (ldC cp (wpAny_items_nil ⟨tpB B₃, put_ok (p := 0 + i) (tpB B₃) (k'.less (by decide)) R₂.lo h53 L3 R₂.lS row3 tb₃ (by rw [stabN_len]; lia) fun D' vs' h₆ tk₆ L₆ g₆ k₆ row₆ tb₆ => ?_⟩))
    have B₆ := B₃.stay k₆ (fun b hb q => n91o (by rw [← List.mem_singleton.mp q]; exact hb)) (fun b hb n => absurd hb n)
    refine B₆.stL fun h₇ B₇ k₇ => ?_
    have nD' : D' ∉ own env := B₃.new g₆
    have k37 : Kp (91 :: own env) h₃ h₇ := (k₆.mono fun b hb => by rw [List.mem_singleton.mp hb]; exact .head _).trans (k₇.mono fun b hb => .tail _ hb)
    have st7 : St (i + 1) h₇ := (W A k'.hd).frame _ _ _ st3 fun b hb o e => k37 b o (by
      rw [List.mem_singleton.mp hb]
      intro q
      rcases List.mem_cons.mp q with q | q
      · exact I91 q.symm
      · exact nI q) e
    have row7 := row₆.kp k₇ R₂.up
    rw [ey, show (⟨(colR (ringS ps) ps.length).getD i ⟨#[]⟩, 0 + i⟩ : Bearer) = ⟨(colR (ringS ps) ps.length).getD i ⟨#[]⟩, i⟩ by rw [Nat.zero_add], ← stabN_succ] at row7
    refine wpAny_execs_nil (hqq _ _ ⟨st7, _, _, _, _, D', vs', rfl, B₇, tb₆.kp k₇ n91o, K₃.trans k37, S₃.put (by decide), C₃, ⟨upd_eq, kpL L₆ k₇ nD', row7, nD', Nat.le_trans R₂.lo (Nat.le_trans h53 g₆), R₂.up, R₂.lo⟩, ?_, ?_⟩)
    · exact Nat.ne_of_gt (Nat.lt_of_lt_of_le (hin (i + 1) _ st3) g₆)
    · have e1 : h₄.objs.size < h₇.objs.size := hin (i + 1) _ st7
      rw [z₅]; exact e1
  · rintro _ h' tk' _ ⟨h₂, tk₂, m', cm', Sa, ws, rfl, B₂, tb₂, K₂, S₂, C₂, R₂, nSI, z₂⟩ hk
    have hk : Kp [h₄.objs.size] h₂ h' := hk
    have B' := B₂.stay1 hk nI nI0
    have K' : Kp (91 :: own env) h h' := K₂.new hk fun b hb _ => by rw [List.mem_singleton.mp hb]; exact nIh
    have tb' := tb₂.kp hk (notMem1 I91)
    have V' := V.on B' tb' K' (S₂.sub (by decide)) C₂
    have row' := R₂.row.kp hk (X := [h₄.objs.size]) fun b hb => by rw [List.mem_singleton.mp hb]; exact I5
    have T' : RT env h₅.objs.size Sa ws (stabN (ringS ps) ps.length ps.length) h' m' := ⟨R₂.v, kpL R₂.l hk (notMem1 nSI), row', R₂.nS, R₂.lS, R₂.up, R₂.lo⟩
    obtain ⟨tc', ec'⟩ := V'.cnt
    have hwl := T'.row.len
    rw [stabN_len] at hwl
    refine wpAny_execs_cons (wpAny_If (wpAny_isTrue_Compare1 (Bi_ (tpB B') (gn_len w) bb_len (wpAny_items_cons (ldL B'.ns T'.v (wpAny_items_nil (len_list T'.l.isList (by rw [List.size_toArray]; lia) (wpAny_BinOp (ldL B'.ns (by ktr_rel) (wpAny_Constant_int (P.add_int (P.ne_int (wpAny_truthy_bool ?_)))))))))))))
    rw [List.size_toArray, hwl, if_neg (by simp)]
    refine wpAny_execs_nil ?_
    (show wpAny _ _ (execs _ _) _ _ _; refine cut (P := fun st => wpAny _ _ (execs _ _) _ _ st) (h := h') (g := Shared.gens s) (d := Shared.drawn s) (o := Shared.os s) fun _ => ?_)
    exact hQ h' _ m' cm' _ Sa ws V' (O.to K' (S₂ "rows" (by decide))) (C.to K' (S₂ "column" (by decide))) T' K'
end
end Mine
set_option maxHeartbeats 4000000
namespace Mine
local macro_rules | `(tactic| ktr_rel) => `(tactic| first | assumption | exact upd_eq | (refine upd_ne ?_ (by decide); ktr_rel))
theorem Row.atB {N : Nat} {h : Heap} {vs : List Value} {bs : List Bearer} (r : Row N h vs bs) : ∀ {i : Nat} {v : Value}, vs[i]? = some v → i < bs.length → ∃ b, bs[i]? = some b ∧ IsB N h v b := by
  induction r with
  | nil => intro i v _ q; simp at q
  | @cons v' vs b bs j r ih =>
    intro i v e q
    cases i with
    | zero => cases e; exact ⟨b, rfl, j⟩
    | succ i => exact ih (i := i) (by simpa using e) (by simpa using q)
def isZ : Value → Bool
  | .int k _ => k == 0
  | _ => false
theorem EqGives.int0 (a : Int) (t u : Tok) : MeetsSeq.EqGives (.int a t) (.int 0 u) (isZ (.int a t)) := fun prog w A E s Q h => SeqAt.EqAt.int_int a t 0 u prog w E Q h
theorem backR_low {r : Str} {n : Nat} (h1 : 0 ∈ permR r n) (h2 : (permR r n).length = n) : ∀ i, (backR r n i).1 < n
  | 0 => by
    have := List.idxOf_lt_length_of_mem h1
    rw [h2] at this
    exact this
  | i + 1 => by
    have ih := backR_low h1 h2 i
    show ((stabN r n n).map (·.place)).getD (backR r n i).1 0 < n
    rw [List.getD_eq_getElem?_getD, List.getElem?_map]
    have hl := stabN_len r n n
    rw [List.getElem?_eq_getElem (by lia)]
    exact stabN_low r n n _ (List.getElem_mem _)
theorem lastC_le (x : Str) : (lastC x).length ≤ x.length := by
  show (x.cps.toList.drop (x.length - 1)).toArray.size ≤ x.cps.size
  simp
theorem backR_len {r : Str} {n : Nat} (h : ∀ c ∈ colR r n, c.length ≤ 8) : ∀ i, (backR r n i).2.length ≤ i * 8
  | 0 => Nat.le_refl _
  | i + 1 => by
    have ih := backR_len h i
    show ((backR r n i).2 ++ (colR r n).getD (((stabR r n).map (·.place)).getD (backR r n i).1 0) ⟨#[]⟩ : Str).length ≤ _
    rw [strLen_append]
    have : ((colR r n).getD (((stabR r n).map (·.place)).getD (backR r n i).1 0) ⟨#[]⟩).length ≤ 8 := by
      rw [List.getD_eq_getElem?_getD]
      cases e : (colR r n)[((stabR r n).map (·.place)).getD (backR r n i).1 0]? with
      | none => exact Nat.zero_le _
      | some c => exact h c (List.mem_of_getElem? e)
    lia
inductive RGJ (s : Shared) (env : Env) (m cm : Str → Option Value) (h : Heap) (r : Str) (n i : Nat) (s' : Shared) : Prop
  | mk (h₂ : Heap) (tk₂ : Nat) (m' : Str → Option Value) (ta tb : Tok) (e : s' = { s with heap := h₂, toks := tk₂ }) (B : Bd [91] s.heap env m' cm h₂) (tbo : TabOk h₂) (K : Kp (91 :: own env) h h₂) (S : SameOn ["count", "spread", "rows", "column", "stable"] m m')
    (e1 : m' "at" = some (.int ((backR r n i).1 : Int) ta)) (e2 : m' "back" = some (.str (backR r n i).2 tb)) : RGJ s env m cm h r n i s'
section
variable {w : World} {A : Around} {E : Value → Shared → Prop} {s : Shared}
theorem right_g {fd : FuncData} {o : Obj} {L D Ta : Addr} {vs us : List Value} {ps : List Str} {b : Bool} {h : Heap} {tk : Nat} {m cm : Str → Option Value} {N : Nat} {Ra : Addr} {hs : List Value} {Ca : Addr} {cs : List Value} {M : Nat} {Sa : Addr} {ws : List Value} {Q : Flow → Shared → Prop}
    (ho : (KF w).lookup 109 = some o) (hd : o.data = .func fd) (T : Tp w s.heap) (k' : Ok A 6) (R : RightOk ps b) :
    let env := callEnvC fd L 109
    RV s env ps b D Ta vs us h m cm → RO env ps.length (ringS ps) N Ra hs h m → RL env ps.length (ringS ps) Ca cs h m → RT env M Sa ws (stabN (ringS ps) ps.length ps.length) h m →
    (∀ h' tk m' tb, RV s env ps b D Ta vs us h' m' cm → RO env ps.length (ringS ps) N Ra hs h' m' → m' "back" = some (.str (ringS ps) tb) → Kp (91 :: own env) h h' →
      wpAny (model pr w) A (execs ((pickDef 13).drop 12) env) Q E { s with heap := h', toks := tk }) →
    wpAny (model pr w) A (execs ((pickDef 13).drop 9) env) Q E { s with heap := h, toks := tk } := by
  cases ho
  cases hd
  intro env V O C S hQ
  have tpB : ∀ {m cm : Str → Option Value} {h : Heap}, Bd [91] s.heap env m cm h → Tp w h := fun B => T.kp B.keep (fun b hb => .inr (List.mem_singleton.mp hb))
  have n2 := R.two
  have n8 := R.eight
  have B := V.B
  have hL : 115 ≤ env.locals := Nat.le_trans T.size B.fresh
  have n91o : 91 ∉ own env := fun q => by have := B.ownNew 91 q; have := T.size; lia
  have lh : 115 ≤ h.objs.size := Nat.le_trans hL (Nat.le_of_lt B.ns.lt)
  have hcl : (colR (ringS ps) ps.length).length = ps.length := by unfold colR; rw [List.length_map, R.len]
  have hcs : cs.length = ps.length := by rw [C.sc.length, hcl]
  have hrl := ringS_len fun p hp => (R.fits p hp).1
  have hc8 : ∀ c ∈ colR (ringS ps) ps.length, c.length ≤ 8 := fun c hc => by
    obtain ⟨i, hi, rfl⟩ := List.mem_map.mp hc
    have := lastC_le (turnS (ringS ps) i)
    have := turnS_len (r := ringS ps) (i := i) (by have := R.low i hi; lia)
    lia
  have hpl : ((permR (ringS ps) ps.length).map fun i => hs.getD i Value.none).length = ps.length := by rw [List.length_map, R.len]
  refine wpAny_execs_cons (wpAny_Assign_Name (Index_ (Comp_ (ldL B.ns O.v (iterL O.l.isList fun o St W st _ => ⟨_, _, _, _, _, St, fun _ => true, fun _ v y => ∃ i, Rw N h (ringS ps) v i ∧ (fun i y => ∃ t, y = Value.int (i : Int) t) i y, rfl, W _ k'.hd, st, ?_, ?_⟩)))))
  · refine ⟨by rw [List.size_toArray, hpl, sizeLine_eq]; lia, fun b hb => ?_, fun _ _ _ _ _ _ _ q => q, fun C i v s₃ m₃ E₃ _ _ _ _ _ _ _ => noTests (v := v), fun C j v s₃ m₃ E₃ hC hv _ hn hm hk hsz _ => ?_⟩
    · show b < (Heap.push _ _).objs.size
      rw [Heap.size_push]
      rcases List.mem_cons.mp hb with rfl | hb
      · exact Nat.lt_succ_self _
      · rw [List.mem_singleton.mp hb]; exact Nat.lt_succ_of_lt (plain_lt O.l)
    · have k3 : Kp [] h s₃.heap := fun b o _ e => hk b o (notMem1 (Nat.ne_of_lt (Heap.lt_size e))) (Heap.get?_push_of_some _ e)
      have T₃ : Tp w s₃.heap := (tpB B).kp k3 Far.nil
      obtain ⟨i, hp, rw0⟩ := O.at R.low (j := j) (v := v) hv
      obtain ⟨x, t, u, rfl, ih⟩ := id rw0
      have ih3 := ih.kp k3 (fun _ q => nomatch q)
      have hC' : 115 ≤ C := Nat.le_trans hL (Nat.le_trans (Nat.le_of_lt B.ns.lt) (Nat.le_trans (by show h.objs.size ≤ (Heap.push _ _).objs.size; rw [Heap.size_push]; exact Nat.le_succ _) hC))
      exact AttrT_ (ldL hn hm (getH2 hn T₃ hC' ih3 rfl ⟨⟨i, rw0, u, rfl⟩, keepsT _ _⟩))
  intro h₄ tk₄ ys vs₄ S₄ hl₄ hP₄ hF₄ k₄
  obtain ⟨e1, e2⟩ := O.made R.low hl₄ hP₄ hF₄
  rw [R.len] at e1
  have k4 : Kp [] h h₄ := fun b o _ e => k₄ b o (notMem1 (Nat.ne_of_lt (Heap.lt_size e))) (Heap.get?_push_of_some _ e)
  have B₄ := B.keeps k4
  have hz : (permR (ringS ps) ps.length).idxOf 0 < ps.length := by have := List.idxOf_lt_length_of_mem R.zero; rw [R.len] at this; exact this
  refine ⟨_, ys, rfl, S₄, wpAny_Constant_int ⟨isZ, (permR (ringS ps) ps.length).idxOf 0, by lia, S₄, fun y hy => ?_, by rw [sizeLine_eq]; lia, ?_, fun q hq hlt => ?_, fun t₅ tk₅ => B₄.stL fun h₅ B₅ k₅ => ?_⟩⟩
  · obtain ⟨j, hj, e⟩ := Array.getElem_of_mem hy
    obtain ⟨i, _, t, rfl⟩ := e2 j y (by rw [Array.getElem?_eq_getElem hj, e])
    exact EqGives.int0 _ _ _
  · obtain ⟨i, hi, t, e⟩ := e2 _ _ (Array.getElem?_eq_getElem (show (permR (ringS ps) ps.length).idxOf 0 < ys.size by lia))
    rw [List.getElem?_eq_getElem (by rw [R.len]; exact hz), List.getElem_idxOf] at hi
    cases hi
    rw [e]; rfl
  · obtain ⟨i, hi, t, e⟩ := e2 _ _ (Array.getElem?_eq_getElem hq)
    rw [e]
    have hq' : q < (permR (ringS ps) ps.length).length := by rw [R.len]; lia
    rw [List.getElem?_eq_getElem hq'] at hi
    have hf := List.not_of_lt_findIdx (p := (· == 0)) (xs := permR (ringS ps) ps.length) (i := q) hlt
    rw [Option.some.inj hi] at hf
    show ((i : Int) == 0) = false
    simpa using hf
  (show wpAny _ _ (execs _ _) _ _ _; refine cut (P := fun st => wpAny _ _ (execs _ _) _ _ st) (h := h₅) (g := Shared.gens s) (d := Shared.drawn s) (o := Shared.os s) fun _ => ?_)
  have k05 : Kp (91 :: own env) h h₅ := (k4.mono (by simp)).trans (k₅.mono fun b hb => .tail _ hb)
  have tb₅ : TabOk h₅ := (V.tb.kp k4 (by simp)).kp k₅ n91o
  refine wpAny_execs_cons (wpAny_Assign_Name (wpAny_Constant_str (B₅.stL fun h₆ B₆ k₆ => ?_)))
  (show wpAny _ _ (execs _ _) _ _ _; refine cut (P := fun st => wpAny _ _ (execs _ _) _ _ st) (h := h₆) (g := Shared.gens s) (d := Shared.drawn s) (o := Shared.os s) fun _ => ?_)
  have k06 : Kp (91 :: own env) h h₆ := k05.trans (k₆.mono fun b hb => .tail _ hb)
  have tb₆ : TabOk h₆ := tb₅.kp k₆ n91o
  have S₆ : ∀ x y : Value, SameOn ["count", "spread", "rows", "column", "stable"] m (upd (upd m "at" x) "back" y) := fun x y => ((SameOn.refl _ m).put (by decide)).put (by decide)
  have V₆ := V.on B₆ tb₆ k06 ((S₆ _ _).sub (by decide)) (SameOn.refl _ _)
  obtain ⟨tc, ec⟩ := V₆.cnt
  refine wpAny_execs_cons (For_ (Ty_ (tpB B₆) (gn_range w) bb_range (wpAny_items_cons (ldL B₆.ns ec (wpAny_items_nil (range1 (N := ps.length) fun h₇ ra t0 u v k₇ hra tk₇ => iterR hra (by decide) (by lia) fun h₈ St W st k₈ z₈ hin => ?_))))))
  have k68 : Kp [] h₆ h₈ := k₇.trans k₈
  have nI : h₇.objs.size ∉ own env := (B₆.keeps k₇).new (Nat.le_refl _)
  have nI0 : s.heap.get? h₇.objs.size = none := (B₆.keeps k₇).none (Nat.le_refl _)
  have lD4 : h.objs.size < h₇.objs.size := by
    have q : (h.push o).objs.size < h₇.objs.size := plain_lt (kpL (kpL (kpL S₄ k₅ (fun q => B₄.apart_list (Classical.choose_spec S₄) rfl q)) k₆ (fun q => B₄.apart_list (Classical.choose_spec S₄) rfl q)) k₇ (by simp))
    rw [Heap.size_push] at q
    exact Nat.lt_of_succ_lt q
  have nIh : h.get? h₇.objs.size = none := get_none (Nat.le_of_lt lD4)
  have I91 : (91 : Nat) ≠ h₇.objs.size := Nat.ne_of_lt (Nat.lt_of_lt_of_le (by decide) (Nat.le_trans lh (Nat.le_of_lt lD4)))
  refine ⟨_, _, _, _, _, St, fun i s' => RGJ s env m cm h (ringS ps) ps.length i s', rfl, W _ k'.hd, st,
    ⟨_, _, _, _, _, rfl, B₆.keeps k68, tb₆.kp k68 (by simp), k06.trans (k68.mono (by simp)), S₆ _ _, by show _ = some (Value.int (((permR (ringS ps) ps.length).idxOf 0 : Nat) : Int) _); ktr_rel, upd_eq⟩, ?_, ?_⟩
  · rintro i v h' tk' _ E₂ hlt hst ⟨h₂, tk₂, m', ta, tb, rfl, B₂, tb₂, K₂, S₂, ea, eb⟩ ⟨ti, rfl⟩ hst' hk
    have hk : Kp [h₇.objs.size] h₂ h' := hk
    have hlt : i < ps.length := hlt
    have B' := B₂.stay1 hk nI nI0
    have K' : Kp (91 :: own env) h h' := K₂.new hk fun b hb _ => by rw [List.mem_singleton.mp hb]; exact nIh
    refine B'.stL fun h₃ B₃ k₃ => ?_
    refine hideQ fun Q' hqq => ?_
    (show wpAny _ _ (execs _ _) _ _ _; refine cut (P := fun st => wpAny _ _ (execs _ _) _ _ st) (h := h₃) (g := Shared.gens s) (d := Shared.drawn s) (o := Shared.os s) fun _ => ?_)
    have tb₃ : TabOk h₃ := (tb₂.kp hk (notMem1 I91)).kp k₃ n91o
    have K₃ : Kp (91 :: own env) h h₃ := K'.trans (k₃.mono fun b hb => .tail _ hb)
    have S₃ : SameOn ["count", "spread", "rows", "column", "stable"] m (upd m' "step" (.int ((0 + i : Nat) : Int) ti)) := S₂.put (by decide)
    have st3 : St (i + 1) h₃ := (W A k'.hd).frame _ _ _ hst' fun b hb o e => k₃ b o (by rw [List.mem_singleton.mp hb]; exact nI) e
    have T₃ := S.to K₃ (S₃ "stable" (by decide))
    have hwl := T₃.row.len
    rw [stabN_len] at hwl
    have low := backR_low (r := ringS ps) (n := ps.length) R.zero R.len i
    refine wpAny_execs_cons (wpAny_Assign_Name (AttrT_ (Sub1_ (ldL B₃.ns T₃.v (ldL B₃.ns (by ktr_rel) ⟨_, _, _, _, rfl, rfl, T₃.l.isList, by lia, by rw [List.size_toArray]; lia, by rw [List.size_toArray, sizeLine_eq]; lia, fun x hx => ?_⟩)))))
    rw [if_neg (by lia), Int.toNat_natCast] at hx
    obtain ⟨q, hq, f, ds, mA, t1, u1, rfl, _, _, iF, g1, g2⟩ := T₃.row.atB (i := (backR (ringS ps) ps.length i).1) (v := x) (by simpa using hx) (by rw [stabN_len]; exact low)
    refine getF iF g2 rfl look_fn2 fun tk₄ => B₃.stL fun h₄ B₄ k₄ => ?_
    (show wpAny _ _ (execs _ _) _ _ _; refine cut (P := fun st => wpAny _ _ (execs _ _) _ _ st) (h := h₄) (g := Shared.gens s) (d := Shared.drawn s) (o := Shared.os s) fun _ => ?_)
    have ea' : (backR (ringS ps) ps.length (i + 1)).1 = q.place := by
      show ((stabN (ringS ps) ps.length ps.length).map (·.place)).getD (backR (ringS ps) ps.length i).1 0 = q.place
      rw [List.getD_eq_getElem?_getD, List.getElem?_map, hq]; rfl
    have low' := backR_low (r := ringS ps) (n := ps.length) R.zero R.len (i + 1)
    have tb₄ : TabOk h₄ := tb₃.kp k₄ n91o
    have K₄ : Kp (91 :: own env) h h₄ := K₃.trans (k₄.mono fun b hb => .tail _ hb)
    have S₄ : SameOn ["count", "spread", "rows", "column", "stable"] m (upd (upd m' "step" (.int ((0 + i : Nat) : Int) ti)) "at" (.int (q.place : Int) u1)) := S₃.put (by decide)
    have st4 : St (i + 1) h₄ := (W A k'.hd).frame _ _ _ st3 fun b hb o e => k₄ b o (by rw [List.mem_singleton.mp hb]; exact nI) e
    have C₄ := C.to K₄ (S₄ "column" (by decide))
    rw [ea'] at low'
    refine wpAny_execs_cons (wpAny_Assign_Name (wpAny_BinOp (ldL B₄.ns (by ktr_rel) (Sub1_ (ldL B₄.ns C₄.v (ldL B₄.ns upd_eq ⟨_, _, _, _, rfl, rfl, C₄.l.isList, by lia, by rw [List.size_toArray]; lia, by rw [List.size_toArray, sizeLine_eq]; lia, fun x hx => ?_⟩))))))
    rw [if_neg (by lia), Int.toNat_natCast] at hx
    obtain ⟨y, hy, hsv⟩ := C₄.sc.at (i := q.place) (v := x) (by simpa using hx)
    obtain ⟨tt, rfl⟩ := sv_eq hsv
    have bl := backR_len hc8 i
    have yl := hc8 y (List.mem_of_getElem? hy)
    refine add_str (fun t' tk => B₄.stL fun h₅ B₅ k₅ => ?_) (by rw [sizeLine_eq]; lia)
    have eb' : (backR (ringS ps) ps.length (i + 1)).2 = (backR (ringS ps) ps.length i).2 ++ y := by
      show (backR (ringS ps) ps.length i).2 ++ (colR (ringS ps) ps.length).getD (backR (ringS ps) ps.length (i + 1)).1 ⟨#[]⟩ = _
      rw [ea', List.getD_eq_getElem?_getD, hy]; rfl
    refine wpAny_execs_nil (hqq _ _ ⟨(W A k'.hd).frame _ _ _ st4 fun b hb o e => k₅ b o (by rw [List.mem_singleton.mp hb]; exact nI) e, _, _, _, u1, t', rfl, B₅, tb₄.kp k₅ n91o, K₄.trans (k₅.mono fun b hb => .tail _ hb), S₄.put (by decide), ?_, ?_⟩)
    · rw [ea']; ktr_rel
    · rw [eb']; exact upd_eq
  · rintro _ h' tk' _ ⟨h₂, tk₂, m', ta, tb, rfl, B₂, tb₂, K₂, S₂, ea, eb⟩ hk
    have hk : Kp [h₇.objs.size] h₂ h' := hk
    have B' := B₂.stay1 hk nI nI0
    have K' : Kp (91 :: own env) h h' := K₂.new hk fun b hb _ => by rw [List.mem_singleton.mp hb]; exact nIh
    have hb := R.back
    refine hQ h' tk' m' tb (V.on B' (tb₂.kp hk (notMem1 I91)) K' (S₂.sub (by decide)) (SameOn.refl _ _)) (O.to K' (S₂ "rows" (by decide))) ?_ K'
    rw [← hb]; exact eb
end
end Mine
set_option maxHeartbeats 4000000
namespace Mine
local macro_rules | `(tactic| ktr_rel) => `(tactic| first | assumption | exact upd_eq | (refine upd_ne ?_ (by decide); ktr_rel))
theorem cnt_eq (c : Nat) : ∀ l : List Nat, PyProof.Rows.cnt c l = (l.count c : Int)
  | [] => rfl
  | n :: r => by
    rw [cnt_cons, cnt_eq c r, List.count_cons]
    by_cases h : n = c <;> simp [h]
    lia
def prevP (n i : Nat) : Nat := if i = 0 then n - 1 else i - 1
section
variable {w : World} {A : Around} {E : Value → Shared → Prop} {s : Shared}
theorem right_h {fd : FuncData} {o : Obj} {L D Ta : Addr} {vs us : List Value} {ps : List Str} {b : Bool} {h : Heap} {tk : Nat} {m cm : Str → Option Value} {N : Nat} {Ra : Addr} {hs : List Value} {tb : Tok} {Q : Flow → Shared → Prop}
    (ho : (KF w).lookup 109 = some o) (hd : o.data = .func fd) (T : Tp w s.heap) (k' : Ok A 6) (R : RightOk ps b) :
    let env := callEnvC fd L 109
    RV s env ps b D Ta vs us h m cm → RO env ps.length (ringS ps) N Ra hs h m → m "back" = some (.str (ringS ps) tb) →
    (∀ h' tk m' t1 t2 t3 t4, RV s env ps b D Ta vs us h' m' cm → m' "back" = some (.str (ringS ps) t1) → m' "sent" = some (.str (sentS ps (ringS ps)) t2) → m' "opening" = some (.int (opn (ringS ps) : Int) t3) → m' "closing" = some (.int ((ps.length - opn (ringS ps) : Nat) : Int) t4) → Kp (91 :: own env) h h' →
      wpAny (model pr w) A (execs ((pickDef 13).drop 15) env) Q E { s with heap := h', toks := tk }) →
    wpAny (model pr w) A (execs ((pickDef 13).drop 12) env) Q E { s with heap := h, toks := tk } := by
  cases ho
  cases hd
  intro env V O eb hQ
  have tpB : ∀ {m cm : Str → Option Value} {h : Heap}, Bd [91] s.heap env m cm h → Tp w h := fun B => T.kp B.keep (fun b hb => .inr (List.mem_singleton.mp hb))
  have n2 := R.two
  have n8 := R.eight
  have B := V.B
  have hL : 115 ≤ env.locals := Nat.le_trans T.size B.fresh
  have n91o : 91 ∉ own env := fun q => by have := B.ownNew 91 q; have := T.size; lia
  have hrl := ringS_len fun p hp => (R.fits p hp).1
  have hvl : vs.length = ps.length := V.sD.length
  have hpl : ((permR (ringS ps) ps.length).map fun i => hs.getD i Value.none).length = ps.length := by rw [List.length_map, R.len]
  have cpc := B.cellv (n := "pieces") rfl V.pieces
  refine wpAny_execs_cons (wpAny_Assign_Name (Meth_ (wpAny_Constant_str (SB.join (Comp_ (ldL B.ns O.v (iterL O.l.isList fun o St W st _ => ⟨_, _, _, _, _, St, fun _ => true, fun _ v y => ∃ i, Rw N h (ringS ps) v i ∧ (fun i y => ∃ t, y = Value.str (ps.getD (prevP ps.length i) ⟨#[]⟩) t) i y, rfl, W _ k'.hd, st, ?_, ?_⟩)))))))
  · refine ⟨by rw [List.size_toArray, hpl, sizeLine_eq]; lia, fun b hb => ?_, fun _ _ _ _ _ _ _ q => q, fun C i v s₃ m₃ E₃ _ _ _ _ _ _ _ => noTests (v := v), fun C j v s₃ m₃ E₃ hC hv _ hn hm hk hsz _ => ?_⟩
    · show b < (Heap.push _ _).objs.size
      rw [Heap.size_push]
      rcases List.mem_cons.mp hb with rfl | hb
      · exact Nat.lt_succ_self _
      · rw [List.mem_singleton.mp hb]; exact Nat.lt_succ_of_lt (plain_lt O.l)
    · have k3 : Kp [] h s₃.heap := fun b o _ e => hk b o (notMem1 (Nat.ne_of_lt (Heap.lt_size e))) (Heap.get?_push_of_some _ e)
      have T₃ : Tp w s₃.heap := (tpB B).kp k3 Far.nil
      obtain ⟨i, hp, rw0⟩ := O.at R.low (j := j) (v := v) hv
      have hi := R.low i (List.mem_of_getElem? hp)
      obtain ⟨x, t, u, rfl, ih⟩ := id rw0
      have ih3 := ih.kp k3 (fun _ q => nomatch q)
      have hC' : 115 ≤ C := Nat.le_trans hL (Nat.le_trans (Nat.le_of_lt B.ns.lt) (Nat.le_trans (by show h.objs.size ≤ (Heap.push _ _).objs.size; rw [Heap.size_push]; exact Nat.le_succ _) hC))
      refine Sub1_ (ldC (isCell_kp cpc k3) (wpAny_BinOp (AttrT_ (ldL hn hm (getH2 hn T₃ hC' ih3 rfl (wpAny_Constant_int (P.sub_int ⟨D, vs.toArray, _, _, rfl, rfl, (kpL V.LD k3 (by simp)).isList, by rw [List.size_toArray]; lia, by rw [List.size_toArray]; lia, by rw [List.size_toArray, sizeLine_eq]; lia, fun y hy => ?_⟩)))))))
      have ei : (if (i : Int) - 1 < 0 then (i : Int) - 1 + (vs.toArray.size : Int) else (i : Int) - 1).toNat = prevP ps.length i := by
        unfold prevP
        rw [List.size_toArray, hvl]
        split <;> split <;> lia
      rw [ei] at hy
      obtain ⟨z, hz, hsv⟩ := V.sD.at (i := prevP ps.length i) (v := y) (by simpa using hy)
      obtain ⟨tz, rfl⟩ := sv_eq hsv
      refine ⟨⟨i, rw0, tz, ?_⟩, keepsT _ _⟩
      rw [List.getD_eq_getElem?_getD, hz]; rfl
  intro h₄ tk₄ ys vs₄ S₄ hl₄ hP₄ hF₄ k₄
  obtain ⟨e1, e2⟩ := O.made R.low hl₄ hP₄ hF₄
  rw [R.len] at e1
  have k4 : Kp [] h h₄ := fun b o _ e => k₄ b o (notMem1 (Nat.ne_of_lt (Heap.lt_size e))) (Heap.get?_push_of_some _ e)
  have B₄ := B.keeps k4
  have S2 : Strs ys.toList ((permR (ringS ps) ps.length).map fun i => ps.getD (prevP ps.length i) ⟨#[]⟩) := strs_of (by rw [R.len]; simpa using e1) fun j y e => e2 j y (by simpa using e)
  obtain ⟨l, hl, hl'⟩ := S2.values
  have h100 : ∀ y ∈ (permR (ringS ps) ps.length).map (fun i => ps.getD (prevP ps.length i) ⟨#[]⟩), y.length ≤ 100 := fun y hy => by
    obtain ⟨i, hi, rfl⟩ := List.mem_map.mp hy
    rw [List.getD_eq_getElem?_getD]
    cases e : ps[prevP ps.length i]? with
    | none => exact Nat.zero_le _
    | some p => exact (R.fits p (List.mem_of_getElem? e)).2
  have hlen := sum_le h100
  rw [List.length_map, R.len] at hlen
  refine ⟨_, l, rfl, by rw [← hl]; simpa using S₄.isList, _, hl', joinOk_of (by rw [show (Str.ofString "").length = 0 from rfl]; lia), fun t' k => ?_⟩
  show wpAny _ _ (storeName _ _ (.str (sentS ps (ringS ps)) t')) _ _ _
  refine B₄.stL fun h₅ B₅ k₅ => ?_
  (show wpAny _ _ (execs _ _) _ _ _; refine cut (P := fun st => wpAny _ _ (execs _ _) _ _ st) (h := h₅) (g := Shared.gens s) (d := Shared.drawn s) (o := Shared.os s) fun _ => ?_)
  have k05 : Kp (91 :: own env) h h₅ := (k4.mono (by simp)).trans (k₅.mono fun b hb => .tail _ hb)
  have tb₅ : TabOk h₅ := (V.tb.kp k4 (by simp)).kp k₅ n91o
  obtain ⟨tr, er⟩ := V.ring
  have cr := B₅.cellv (n := "ring") rfl er
  refine wpAny_execs_cons (wpAny_Assign_Name (Meth_ (ldC cr (SB.count (wpAny_Constant_str (k := 0) (pos := ⟨0, 0, 0, 0⟩) ⟨_, _, rfl, B₅.stL fun h₆ B₆ k₆ => ?_⟩)))))
  have ec : Txt.count (ringS ps) (Str.ofString "(") = (opn (ringS ps) : Int) := by
    rw [show Str.ofString "(" = ⟨#[40]⟩ from rfl, count_cnt, cnt_eq]; rfl
  rw [ec] at B₆
  (show wpAny _ _ (execs _ _) _ _ _; refine cut (P := fun st => wpAny _ _ (execs _ _) _ _ st) (h := h₆) (g := Shared.gens s) (d := Shared.drawn s) (o := Shared.os s) fun _ => ?_)
  have k06 : Kp (91 :: own env) h h₆ := k05.trans (k₆.mono fun b hb => .tail _ hb)
  have tb₆ : TabOk h₆ := tb₅.kp k₆ n91o
  obtain ⟨tc, ecn⟩ := V.cnt
  refine wpAny_execs_cons (wpAny_Assign_Name (wpAny_BinOp (ldL B₆.ns (by ktr_rel) (ldL B₆.ns upd_eq (P.sub_int (B₆.stL fun h₇ B₇ k₇ => ?_))))))
  have eo : (ps.length : Int) - (opn (ringS ps) : Int) = ((ps.length - opn (ringS ps) : Nat) : Int) := by
    have := R.open2; lia
  rw [eo] at B₇
  (show wpAny _ _ (execs _ _) _ _ _; refine cut (P := fun st => wpAny _ _ (execs _ _) _ _ st) (h := h₇) (g := Shared.gens s) (d := Shared.drawn s) (o := Shared.os s) fun _ => ?_)
  have k07 : Kp (91 :: own env) h h₇ := k06.trans (k₇.mono fun b hb => .tail _ hb)
  have S₇ : ∀ x y z : Value, SameOn ["count", "spread"] m (upd (upd (upd m "sent" x) "opening" y) "closing" z) := fun x y z => (((SameOn.refl _ m).put (by decide)).put (by decide)).put (by decide)
  exact hQ h₇ _ _ tb t' _ _ (V.on B₇ (tb₆.kp k₇ n91o) k07 (S₇ _ _ _) (SameOn.refl _ _)) (by ktr_rel) (by ktr_rel) (by ktr_rel) (by ktr_rel) k07
end
end Mine
set_option maxHeartbeats 4000000
namespace Mine
local macro_rules | `(tactic| ktr_rel) => `(tactic| first | assumption | exact upd_eq | (refine upd_ne ?_ (by decide); ktr_rel))
theorem mul40 : ∀ k : Nat, k < 9 → Txt.mul (Str.ofString "(") (k : Int) = par 40 k := by decide +kernel
theorem mul41 : ∀ k : Nat, k < 9 → Txt.mul (Str.ofString ")") (k : Int) = par 41 k := by decide +kernel
theorem mulok {x : Str} {k : Nat} (h : k < 9) (hx : x.length = 1) : MulOk x (k : Int) := by
  refine ⟨by simp; lia, fun h1 h2 => ?_, fun h1 h2 => ?_⟩
  · rw [hx]
    have : (1 : Int) ≤ (2 ^ 63 - 1) / (k : Int) := by
      rw [Int.le_ediv_iff_mul_le (by lia)]; lia
    lia
  · rw [hx]
    unfold Builtin.Str.tooLong
    rw [sizeLine_eq]
    simp; lia
theorem par_len (c k : Nat) : (par c k).length = k := by show (List.replicate k c).toArray.size = k; simp
section
variable {w : World} {A : Around} {E : Value → Shared → Prop} {s : Shared} {env : Env}
theorem arg_ok {e1 e2 : Expr} {p1 p2 p3 p4 p5 p6 p7 : Pos} {k1 k2 : Nat} {a c : Nat} {x : Str} {tx : Tok} {m : Str → Option Value} {Q : Value → Shared → Prop} (ha : a < 9) (hc : c < 9) (hx : x.length ≤ 900) (ns : s.heap.Ns env.locals m) (hm : m "sent" = some (.str x tx))
    (h1 : ∀ (tk : Nat) (Q' : Value → Shared → Prop), (∀ t tk', Q' (.int (a : Int) t) { s with toks := tk' }) → wpAny (model pr w) A (eval e1 env) Q' E { s with toks := tk })
    (h2 : ∀ (tk : Nat) (Q' : Value → Shared → Prop), (∀ t tk', Q' (.int (c : Int) t) { s with toks := tk' }) → wpAny (model pr w) A (eval e2 env) Q' E { s with toks := tk })
    (h : ∀ t tk, Q (.str (par 40 a ++ x ++ par 41 c) t) { s with toks := tk }) (hk : env.scope.kind = .function := by rfl) (hl : env.kindOf "sent" = some .local := by rfl) :
    wpAny (model pr w) A (eval (.BinOp (.BinOp (.BinOp (.Constant (.str "(") k1 p1) .Mult e1 p2) .Add (.Name "sent" p3) p4) .Add (.BinOp (.Constant (.str ")") k2 p5) .Mult e2 p6) p7) env) Q E s := by
  refine wpAny_BinOp (wpAny_BinOp (wpAny_BinOp (wpAny_Constant_str (h1 _ _ fun t1 tk1 => SB.mul (mulok ha rfl) fun t2 tk2 => ?_))))
  rw [mul40 a ha]
  refine ldL (s := { s with toks := tk2 }) ns hm (add_str (fun t3 tk3 => ?_) (by rw [par_len, sizeLine_eq]; lia)) hk hl
  refine wpAny_BinOp (wpAny_Constant_str (h2 _ _ fun t4 tk4 => SB.mul (mulok hc rfl) fun t5 tk5 => ?_))
  rw [mul41 c hc]
  exact add_str (fun t6 tk6 => h t6 tk6) (by rw [strLen_append, par_len, par_len, sizeLine_eq]; lia)
end
end Mine
set_option maxHeartbeats 4000000
namespace Mine
local macro_rules | `(tactic| ktr_rel) => `(tactic| first | assumption | exact upd_eq | (refine upd_ne ?_ (by decide); ktr_rel))
theorem eqBools {w : World} {A : Around} {E : Value → Shared → Prop} {s : Shared} {a b : Addr} {x1 x2 x3 y1 y2 y3 : Bool} {Q : Value → Shared → Prop} (ha : s.heap.PlainList a [Value.bool x1, .bool x2, .bool x3].toArray) (hb : s.heap.PlainList b [Value.bool y1, .bool y2, .bool y3].toArray) (hu : A.units < cLine)
    (h : Q (.bool (x1 == y1 && (x2 == y2 && x3 == y3))) s) : wpAny (model pr w) A (compareOp .Eq (.ref a) (.ref b)) Q E s := by
  refine SeqAt.RcAt.lists (e := fun j => match j with | 0 => x1 == y1 | 1 => x2 == y2 | _ => x3 == y3) ha.isList hb.isList rfl hu (fun j h1 h2 => ?_) pr w E Q ?_
  · match j, h1 with
    | 0, _ => exact SeqAt.EqAt.bool_bool x1 y1
    | 1, _ => exact SeqAt.EqAt.bool_bool x2 y2
    | 2, _ => exact SeqAt.EqAt.bool_bool x3 y3
    | j + 3, h1 => exact absurd h1 (by show ¬ j + 3 < 3; lia)
  · have : ((List.range 3).all fun j => (fun j => match j with | 0 => x1 == y1 | 1 => x2 == y2 | _ => x3 == y3 : Nat → Bool) j) = (x1 == y1 && (x2 == y2 && x3 == y3)) := by
      simp [List.range, List.range.loop]
    rw [← this] at h
    exact h
section
variable {w : World} {A : Around} {E : Value → Shared → Prop} {s : Shared}
theorem right_i {fd : FuncData} {o : Obj} {L D Ta : Addr} {vs us : List Value} {ps : List Str} {b : Bool} {h : Heap} {tk : Nat} {m cm : Str → Option Value} {t1 t2 t3 t4 : Tok} {Q : Flow → Shared → Prop}
    (ho : (KF w).lookup 109 = some o) (hd : o.data = .func fd) (T : Tp w s.heap) (k' : Ok A 6) (R : RightOk ps b) (hb : AllBare s.gens) (hsl : (sentS ps (ringS ps)).length ≤ 900) :
    let env := callEnvC fd L 109
    RV s env ps b D Ta vs us h m cm → m "back" = some (.str (ringS ps) t1) → m "sent" = some (.str (sentS ps (ringS ps)) t2) → m "opening" = some (.int (opn (ringS ps) : Int) t3) → m "closing" = some (.int ((ps.length - opn (ringS ps) : Nat) : Int) t4) →
    (∀ h' tk gs, Kp [91] s.heap h' → TabOk h' → AllBare gs → Q (.ret (.bool true)) { s with heap := h', toks := tk, gens := gs }) →
    wpAny (model pr w) A (execs ((pickDef 13).drop 15) env) Q E { s with heap := h, toks := tk } := by
  cases ho
  cases hd
  intro env V eb es eo ec hQ
  have tpB : ∀ {m cm : Str → Option Value} {h : Heap}, Bd [91] s.heap env m cm h → Tp w h := fun B => T.kp B.keep (fun b hb => .inr (List.mem_singleton.mp hb))
  have n2 := R.two
  have n8 := R.eight
  have o1 := R.open1
  have o2 := R.open2
  have B := V.B
  have hL : 115 ≤ env.locals := Nat.le_trans T.size B.fresh
  have n91o : 91 ∉ own env := fun q => by have := B.ownNew 91 q; have := T.size; lia
  have tot : ∀ {a c : Nat}, a < 9 → c < 9 → (par 40 a ++ sentS ps (ringS ps) ++ par 41 c).length ≤ 1000 := fun {a c} ha hc => by rw [strLen_append, strLen_append, par_len, par_len]; lia
  refine wpAny_execs_cons (wpAny_Assign_Name (wpAny_List (wpAny_items_cons (Fn_ (tpB B) (gl_42 w) (by kernel_rfl) (wpAny_items_cons (arg_ok (a := ps.length - opn (ringS ps)) (c := opn (ringS ps)) (by lia) (by lia) hsl B.ns (by ktr_rel) (fun tk Q' hq => ldL B.ns (by ktr_rel) (hq _ _)) (fun tk Q' hq => ldL B.ns (by ktr_rel) (hq _ _)) fun ta tka => wpAny_items_nil ⟨tpB B, check_ok (tpB B) (k'.less (by decide)) (tot (by lia) (by lia)) hb fun h₁ tk₁ g₁ k₁ b₁ => ?_⟩))))))
  have B₁ := B.keeps k₁
  refine wpAny_items_nil ⟨by show 1 ≤ sizeLine; decide, (B₁.keeps (Kp.push _ _ _)).stL fun h₂ B₂ k₂ => ?_⟩
  rw [R.c1] at k₂
  have nS : h₁.objs.size ∉ own env := B₁.new (Nat.le_refl _)
  have nS0 : s.heap.get? h₁.objs.size = none := B₁.none (Nat.le_refl _)
  have L₂ : h₂.PlainList h₁.objs.size (List.toArray [Value.bool true]) := kpL (a := h₁.objs.size) ⟨_, Heap.get?_push_size _ rfl⟩ k₂ nS
  have tb₂ : TabOk h₂ := ((V.tb.kp k₁ (by simp)).kp (Kp.push [] _ _) (by simp)).kp k₂ n91o
  (show wpAny _ _ (execs _ _) _ _ _; refine cut (P := fun st => wpAny _ _ (execs _ _) _ _ st) (h := h₂) (g := g₁) (d := Shared.drawn s) (o := Shared.os s) fun _ => ?_)
  refine wpAny_execs_cons (Append_ (ldL B₂.ns upd_eq ⟨_, _, rfl, L₂, Fn_ (tpB B₂) (gl_42 w) (by kernel_rfl) (wpAny_items_cons (arg_ok (a := ps.length - opn (ringS ps)) (c := opn (ringS ps) - 1) (by lia) (by lia) hsl B₂.ns (by ktr_rel) (fun tk Q' hq => ldL B₂.ns (by ktr_rel) (hq _ _)) (fun tk Q' hq => wpAny_BinOp (ldL B₂.ns (by ktr_rel) (wpAny_Constant_int (P.sub_int ?_)))) fun ta tka => wpAny_items_nil ⟨tpB B₂, check_ok (tpB B₂) (k'.less (by decide)) (tot (by lia) (by lia)) b₁ fun h₃ tk₃ g₃ k₃ b₃ => ?_⟩))⟩))
  · have := hq
    rw [show ((opn (ringS ps) - 1 : Nat) : Int) = (opn (ringS ps) : Int) - 1 by lia] at this
    exact this _ _
  rw [R.c2]
  have L₃ := kpL L₂ k₃ (by simp)
  refine ⟨_, L₃, by show 1 ≤ sizeLine; decide, fun h₄ L₄ k₄ => ?_⟩
  have B₄ := (B₂.keeps k₃).stay1 k₄ nS nS0
  have S91 : (91 : Nat) ≠ h₁.objs.size := Nat.ne_of_lt (Nat.lt_of_lt_of_le (by decide) (Nat.le_trans hL (Nat.le_of_lt B₁.ns.lt)))
  have tb₄ : TabOk h₄ := (tb₂.kp k₃ (by simp)).kp k₄ (notMem1 S91)
  (show wpAny _ _ (execs _ _) _ _ _; refine cut (P := fun st => wpAny _ _ (execs _ _) _ _ st) (h := h₄) (g := g₃) (d := Shared.drawn s) (o := Shared.os s) fun _ => ?_)
  refine wpAny_execs_cons (Append_ (ldL B₄.ns upd_eq ⟨_, _, rfl, L₄, Fn_ (tpB B₄) (gl_42 w) (by kernel_rfl) (wpAny_items_cons (arg_ok (a := ps.length - opn (ringS ps) - 1) (c := opn (ringS ps) - 1) (by lia) (by lia) hsl B₄.ns (by ktr_rel) (fun tk Q' hq => wpAny_BinOp (ldL B₄.ns (by ktr_rel) (wpAny_Constant_int (P.sub_int ?_)))) (fun tk Q' hq => wpAny_BinOp (ldL B₄.ns (by ktr_rel) (wpAny_Constant_int (P.sub_int ?_)))) fun ta tka => wpAny_items_nil ⟨tpB B₄, check_ok (tpB B₄) (k'.less (by decide)) (tot (by lia) (by lia)) b₃ fun h₅ tk₅ g₅ k₅ b₅ => ?_⟩))⟩))
  · have := hq
    rw [show ((ps.length - opn (ringS ps) - 1 : Nat) : Int) = ((ps.length - opn (ringS ps) : Nat) : Int) - 1 by lia] at this
    exact this _ _
  · have := hq
    rw [show ((opn (ringS ps) - 1 : Nat) : Int) = (opn (ringS ps) : Int) - 1 by lia] at this
    exact this _ _
  rw [R.c3]
  have L₅ := kpL L₄ k₅ (by simp)
  refine ⟨_, L₅, by show 2 ≤ sizeLine; decide, fun h₆ L₆ k₆ => ?_⟩
  have B₆ := (B₄.keeps k₅).stay1 k₆ nS nS0
  have tb₆ : TabOk h₆ := (tb₄.kp k₅ (by simp)).kp k₆ (notMem1 S91)
  have L₆ : h₆.PlainList h₁.objs.size (List.toArray [Value.bool true, .bool false, .bool !b]) := L₆
  (show wpAny _ _ (execs _ _) _ _ _; refine cut (P := fun st => wpAny _ _ (execs _ _) _ _ st) (h := h₆) (g := g₅) (d := Shared.drawn s) (o := Shared.os s) fun _ => ?_)
  refine wpAny_execs_cons (wpAny_If (wpAny_isTrue_Compare1 (Comp_ (ldL B₆.ns upd_eq (iterL L₆.isList fun o₅ St₅ W₅ st₅ _ => ⟨_, _, _, _, _, St₅, fun _ => false, fun _ _ _ => False, rfl, W₅ _ k'.hd, st₅, ?_, ?_⟩)))))
  · refine ⟨by show 3 ≤ sizeLine; decide, fun b hb => ?_, fun _ _ _ _ _ _ _ q => q, fun C i v s₃ m₃ E₃ hC hv hn hm hk hsz _ => ?_, fun C i v s₃ m₃ E₃ hC hv hf => by cases hf⟩
    · show b < (Heap.push _ _).objs.size
      rw [Heap.size_push]
      rcases List.mem_cons.mp hb with rfl | hb
      · exact Nat.lt_succ_self _
      · rw [List.mem_singleton.mp hb]; exact Nat.lt_succ_of_lt (plain_lt L₆)
    · have k3 : Kp [] h₆ s₃.heap := fun b o _ e => hk b o (notMem1 (Nat.ne_of_lt (Heap.lt_size e))) (Heap.get?_push_of_some _ e)
      have T₃ : Tp w s₃.heap := (tpB B₆).kp k3 Far.nil
      obtain ⟨q, rfl⟩ : ∃ q, v = .bool q := by
        have hv' : [Value.bool true, .bool false, .bool !b].toArray[i]? = some v := hv
        match i, hv' with
        | 0, hv' => cases hv'; exact ⟨_, rfl⟩
        | 1, hv' => cases hv'; exact ⟨_, rfl⟩
        | 2, hv' => cases hv'; exact ⟨_, rfl⟩
        | i + 3, hv' => simp at hv'
      exact wpAny_tests_one (wpAny_isTrue_Not (wpAny_isTrue_value (Bi_ T₃ (gn_isinstance w) bb_isinstance (wpAny_items_cons (ldL hn hm (wpAny_items_cons (ldB T₃ (gn_bool w) bb_bool (wpAny_items_nil (IsiPair.bool_bool (wpAny_truthy_bool ⟨rfl, keeps0 _⟩))))))))))
  intro h₇ tk₇ ys₇ vs₇ S₇ hl₇ hP₇ hF₇ k₇
  rw [List.filter_eq_nil_iff.mpr (by simp)] at hF₇
  have e7 : ys₇ = #[] := by cases h : ys₇.toList with | nil => simpa using h | cons a b => rw [h] at hF₇; cases hF₇
  subst e7
  have k67 : Kp [] h₆ h₇ := fun b o _ e => k₇ b o (notMem1 (Nat.ne_of_lt (Heap.lt_size e))) (Heap.get?_push_of_some _ e)
  refine wpAny_List (wpAny_items_nil ⟨by decide, neStrs (vs := []) (us := []) (xs := []) (ys := []) (kpL S₇ (Kp.push [] _ _) (by simp)) ⟨_, Heap.get?_push_size _ rfl⟩ rfl rfl k'.units (wpAny_truthy_bool ?_)⟩)
  rw [if_neg (by decide)]
  refine wpAny_execs_nil ?_
  have k68 : Kp [] h₆ (h₇.push { cls := .type "list", data := .seq [].toArray }) := k67.trans (Kp.push _ _ _)
  generalize hh8 : h₇.push { cls := .type "list", data := .seq [].toArray } = h₈ at k68 ⊢
  have B₈ := B₆.keeps k68
  have L₈ := kpL L₆ k68 (by simp)
  have tb₈ := tb₆.kp k68 (by simp)
  (show wpAny _ _ (execs _ _) _ _ _; refine cut (P := fun st => wpAny _ _ (execs _ _) _ _ st) (h := h₈) (g := g₅) (d := Shared.drawn s) (o := Shared.os s) fun _ => ?_)
  obtain ⟨tr, er⟩ := V.ring
  have cr := B₈.cellv (n := "ring") rfl er
  have esp := V.spr
  refine wpAny_execs_cons (wpAny_Return_some (wpAny_And2 (wpAny_Compare1 (ldL B₈.ns (by ktr_rel) (ldC cr (eq_str (wpAny_truthy_bool ?_)))))))
  rw [if_pos (by simp)]
  refine wpAny_Compare1 (ldL B₈.ns upd_eq (wpAny_List (wpAny_items_cons (wpAny_Constant_bool (wpAny_items_cons (wpAny_Constant_bool (wpAny_items_cons (wpAny_UnaryOp (ldL B₈.ns (by ktr_rel) (not_value (wpAny_truthy_bool (wpAny_items_nil ⟨by show 3 ≤ sizeLine; decide, ?_⟩))))))))))))
  have k9 : Kp [] h₈ (h₈.push { cls := .type "list", data := .seq [Value.bool true, .bool false, .bool !b].toArray }) := Kp.push _ _ _
  refine eqBools (kpL L₈ k9 (by simp)) ⟨_, Heap.get?_push_size _ rfl⟩ k'.units ?_
  simp only [beq_self_eq_true, Bool.and_self]
  exact hQ _ _ _ (B₈.keep.trans (k9.mono (by simp))) (tb₈.kp k9 (by simp)) b₅
end
end Mine
set_option maxHeartbeats 4000000
namespace Mine
theorem sentS_len {ps : List Str} {b : Bool} (R : RightOk ps b) : (sentS ps (ringS ps)).length ≤ 900 := by
  have h100 : ∀ y ∈ (permR (ringS ps) ps.length).map (fun i => ps.getD (prevP ps.length i) ⟨#[]⟩), y.length ≤ 100 := fun y hy => by
    obtain ⟨i, hi, rfl⟩ := List.mem_map.mp hy
    rw [List.getD_eq_getElem?_getD]
    cases e : ps[prevP ps.length i]? with
    | none => exact Nat.zero_le _
    | some p => exact (R.fits p (List.mem_of_getElem? e)).2
  have hlen := sum_le h100
  rw [List.length_map, R.len] at hlen
  have n8 := R.eight
  have h := StrLaws.join_length_le ⟨#[]⟩ ((permR (ringS ps) ps.length).map (fun i => ps.getD (prevP ps.length i) ⟨#[]⟩))
  rw [show Str.join ⟨#[]⟩ ((permR (ringS ps) ps.length).map (fun i => ps.getD (prevP ps.length i) ⟨#[]⟩)) = sentS ps (ringS ps) from (StrLaws.glued_eq_join _ _).symm, show (⟨#[]⟩ : Str).length = 0 from rfl] at h
  lia
section
variable {w : World} {A : Around} {E : Value → Shared → Prop} {s : Shared}
theorem right_ok {D : Addr} {vs : List Value} {ps : List Str} {b : Bool} {Q : Value → Shared → Prop} (T : Tp w s.heap) (k : Ok A 7) (R : RightOk ps b) (hD : s.heap.PlainList D vs.toArray) (hS : Strs vs ps) (hDN : D ≠ 91) (tb : TabOk s.heap) (hb : AllBare s.gens)
    (hQ : ∀ h' tk gs, Kp [91] s.heap h' → TabOk h' → AllBare gs → Q (.bool true) { s with heap := h', toks := tk, gens := gs }) :
    wpAny (model pr w) A (call (.ref 109) [.ref D, .bool b]) Q E s := by
  refine wpAny_call (enter (a := 109) (binds := [("pieces", .ref D), ("spread", .bool b)]) T k rfl rfl (by kernel_rfl) rfl rfl rfl rfl (by decide) ?_)
  intro h₁ tk A' E' k' env B
  have lD : D < s.heap.objs.size := plain_lt hD
  have n91o : 91 ∉ own env := fun q => by have := B.ownNew 91 q; have := T.size; lia
  have nD : D ∉ own env := fun q => Nat.lt_irrefl _ (Nat.lt_of_lt_of_le lD (B.ownNew D q))
  have keep0 := B.keep
  have B : Bd [91] s.heap env _ _ h₁ := { B with keep := B.keep.mono (fun _ q => nomatch q) }
  have hD₁ := kpL hD keep0 (by simp)
  refine right_a (s := s) (L := s.heap.objs.size) (vs := vs) rfl rfl T k' R hD₁ hS rfl B fun h₂ tk₂ m₂ cm₂ Ta us t1 B₂ hm₂ ec er et ep LT sT nT lT k₂ => ?_
  have tb₂ : TabOk h₂ := (tb.kp keep0 (by simp)).kp k₂ n91o
  have V : RV s env ps b D Ta vs us h₂ m₂ cm₂ := ⟨B₂, tb₂, ⟨_, ec⟩, hm₂ "spread" (by decide), er, et, ep, LT, sT, kpL hD₁ k₂ nD, hS, nT, nD, lT, hDN⟩
  refine right_b (s := s) rfl rfl T k' R V fun h₃ tk₃ m₃ N Ra hs V₃ O₃ _ => ?_
  refine right_c (s := s) rfl rfl T k' R V₃ O₃ fun h₄ tk₄ m₄ cm₄ V₄ O₄ _ => ?_
  refine right_e (s := s) rfl rfl T k' R V₄ O₄ fun h₅ tk₅ m₅ Ca cs V₅ O₅ C₅ _ => ?_
  refine right_f (s := s) rfl rfl T k' R V₅ O₅ C₅ fun h₆ tk₆ m₆ cm₆ M Sa ws V₆ O₆ C₆ S₆ _ => ?_
  refine right_g (s := s) rfl rfl T k' R V₆ O₆ C₆ S₆ fun h₇ tk₇ m₇ tb₇ V₇ O₇ eb _ => ?_
  refine right_h (s := s) rfl rfl T k' R V₇ O₇ eb fun h₈ tk₈ m₈ u1 u2 u3 u4 V₈ eb' es eo ecl _ => ?_
  exact right_i (s := s) rfl rfl T k' R hb (sentS_len R) V₈ eb' es eo ecl fun h' tk' gs a b c => hQ h' tk' gs a b c
end
end Mine
set_option maxHeartbeats 4000000
namespace Mine
local macro_rules | `(tactic| ktr_rel) => `(tactic| first | assumption | exact upd_eq | (refine upd_ne ?_ (by decide); ktr_rel))
def szN (t : Int) : Nat := (3 + t.fmod 6).toNat
def stN (t : Int) : Nat := (1 + (t.fdiv 6).fmod ((szN t : Int) - 1)).toNat
def evenAt (t : Int) (p : Nat) : Str := if ((p : Int) * (stN t : Int) + t.fdiv 36).fmod (szN t : Int) < (stN t : Int) then ⟨#[40]⟩ else ⟨#[41]⟩
def evenL (t : Int) : List Str := (List.range (szN t)).map (evenAt t)
theorem szN_eq (t : Int) : (szN t : Int) = 3 + t.fmod 6 ∧ 3 ≤ szN t ∧ szN t ≤ 8 := by
  have h1 := Int.fmod_lt_of_pos t (b := 6) (by decide)
  have h2 := Int.fmod_nonneg_of_pos t (b := 6) (by decide)
  unfold szN; omega
theorem stN_eq (t : Int) : (stN t : Int) = 1 + (t.fdiv 6).fmod ((szN t : Int) - 1) ∧ 1 ≤ stN t ∧ stN t < szN t := by
  have h0 := szN_eq t
  have h1 := Int.fmod_lt_of_pos (t.fdiv 6) (b := (szN t : Int) - 1) (by omega)
  have h2 := Int.fmod_nonneg_of_pos (t.fdiv 6) (b := (szN t : Int) - 1) (by omega)
  unfold stN; omega
theorem ints_take : ∀ {vs : List Value} {ns : List Int} (k : Nat), IntsAre vs ns → IntsAre (vs.take k) (ns.take k)
  | _, _, 0, _ => by simp only [List.take_zero]; exact .nil
  | _, _, k + 1, .nil => by simp only [List.take_nil]; exact .nil
  | _, _, k + 1, .cons n t h => by simp only [List.take_succ_cons]; exact .cons n t (ints_take k h)
theorem ints_app : ∀ {vs us : List Value} {ns ms : List Int}, IntsAre vs ns → IntsAre us ms → IntsAre (vs ++ us) (ns ++ ms)
  | _, _, _, _, .nil, h => h
  | _, _, _, _, .cons n t h, h' => .cons n t (ints_app h h')
section
variable {w : World} {A : Around} {E : Value → Shared → Prop} {s : Shared}
theorem sumL {l : Addr} {vs : List Value} {ns : List Int} {Q : Value → Shared → Prop} (hh : A.handled = none) (hl : s.heap.IsList l vs.toArray) (hi : IntsAre vs ns)
    (h : ∀ h' (t : Tok) tk, Kp [] s.heap h' → Q (.int ns.sum t) { s with heap := h', toks := tk }) : wpAny (model pr w) A (call (.builtin "sum") [.ref l]) Q E s := by
  obtain ⟨xs, e⟩ := hi.allInts.items
  have hns : ns = xs.toList.map (·.1) := by
    rw [← hi.numsOf, ← nums_intItems, ← e]
  rw [e] at hl
  refine sum_intListG hh hl fun h' tk t' hk => ?_
  rw [preSum_eq, List.take_of_length_le (by simp), ← hns]
  exact h h' t' tk (Kp.of hk)
theorem bits8 : ∀ k : Nat, k < 9 → Builtin.Int.intBits (k : Int) ≤ 64 := by decide +kernel
theorem law_b {fd : FuncData} {o : Obj} {L : Addr} {D Na : Addr} {us vs : List Value} {ns : List Int} {ps : List Str} {h : Heap} {tk : Nat} {gs : Array GenState} {m cm : Str → Option Value} {tr : Tok} {Q : Flow → Shared → Prop}
    (ho : (KF w).lookup 114 = some o) (hd : o.data = .func fd) (T : Tp w s.heap) (k' : Ok A 7) (hb : AllBare gs) (tb : TabOk h) (hI : IntsAre vs ns)
    (R1 : RightOk ps (spreadP (ringS ps))) (R2 : RightOk (evenL ns.sum) true) (hN : h.PlainList Na vs.toArray) (hD : h.PlainList D us.toArray) (hS : Strs us ps) (D91 : D ≠ 91) :
    let env := callEnvC fd L 114
    Bd [91] s.heap env m cm h → m "numbers" = some (.ref Na) → m "pieces" = some (.ref D) → m "ring" = some (.str (ringS ps) tr) → Na ∉ own env → D ∉ own env →
    (∀ h' tk gs, Kp [91] s.heap h' → TabOk h' → AllBare gs → Q (.ret (.bool true)) { s with heap := h', toks := tk, gens := gs }) →
    wpAny (model pr w) A (execs ((pickDef 14).drop 4) env) Q E { s with heap := h, toks := tk, gens := gs } := by
  cases ho
  cases hd
  intro env B en ep er nN nD hQ
  have tpB : ∀ {m cm : Str → Option Value} {h : Heap}, Bd [91] s.heap env m cm h → Tp w h := fun B => T.kp B.keep (fun b hb => .inr (List.mem_singleton.mp hb))
  have n91o : 91 ∉ own env := fun q => by have := B.ownNew 91 q; have := T.size; omega
  have hL : 115 ≤ env.locals := Nat.le_trans T.size B.fresh
  obtain ⟨z1, z2, z3⟩ := szN_eq ns.sum
  obtain ⟨y1, y2, y3⟩ := stN_eq ns.sum
  refine wpAny_execs_cons (wpAny_Assign_Name (Bi_ (tpB B) (gn_sum w) bb_sum (wpAny_items_cons (ldL B.ns (by ktr_rel) (wpAny_items_nil (sumL k'.hd hN.isList hI fun h₁ t₁ tk₁ k₁ => (B.keeps k₁).stC fun h₂ B₂ k₂ => ?_))))))
  (show wpAny _ _ (execs _ _) _ _ _; refine cut (P := fun st => wpAny _ _ (execs _ _) _ _ st) (h := h₂) (g := gs) (d := Shared.drawn s) (o := Shared.os s) fun _ => ?_)
  have c1 := B₂.cellv (n := "total") rfl upd_eq
  refine wpAny_execs_cons (wpAny_Assign_Name (wpAny_BinOp (wpAny_Constant_int (wpAny_BinOp (ldC c1 (wpAny_Constant_int (mod_int (by decide) (P.add_int (B₂.stC fun h₃ B₃ k₃ => ?_)))))))))
  rw [← z1] at B₃
  (show wpAny _ _ (execs _ _) _ _ _; refine cut (P := fun st => wpAny _ _ (execs _ _) _ _ st) (h := h₃) (g := gs) (d := Shared.drawn s) (o := Shared.os s) fun _ => ?_)
  have c2 := B₃.cellv (n := "total") rfl (by ktr_rel)
  have c3 := B₃.cellv (n := "size") rfl upd_eq
  refine wpAny_execs_cons (wpAny_Assign_Name (wpAny_BinOp (wpAny_Constant_int (wpAny_BinOp (wpAny_BinOp (ldC c2 (wpAny_Constant_int (floordiv_int (by decide) (wpAny_BinOp (ldC c3 (wpAny_Constant_int (P.sub_int (mod_int (by omega) (P.add_int (B₃.stC fun h₄ B₄ k₄ => ?_)))))))))))))))
  rw [← y1] at B₄
  (show wpAny _ _ (execs _ _) _ _ _; refine cut (P := fun st => wpAny _ _ (execs _ _) _ _ st) (h := h₄) (g := gs) (d := Shared.drawn s) (o := Shared.os s) fun _ => ?_)
  have ct := B₄.cellv (n := "total") rfl (by ktr_rel)
  have cz := B₄.cellv (n := "size") rfl (by ktr_rel)
  have cs := B₄.cellv (n := "step") rfl upd_eq
  have k04 : Kp (91 :: own env) h h₄ := (((k₁.mono (by simp)).trans (k₂.mono fun b hb => .tail _ hb)).trans (k₃.mono fun b hb => .tail _ hb)).trans (k₄.mono fun b hb => .tail _ hb)
  have tb₄ : TabOk h₄ := (((tb.kp k₁ (by simp)).kp k₂ n91o).kp k₃ n91o).kp k₄ n91o
  obtain ⟨cm4, B₄⟩ : ∃ c, Bd [91] s.heap env m c h₄ := ⟨_, B₄⟩
  refine wpAny_execs_cons (CompA_ (X := [91]) (h₀ := s.heap) (m := m) (cm := cm4) (Ty_ (tpB B₄) (gn_range w) bb_range (wpAny_items_cons (ldC cz (wpAny_items_nil (range1 (N := szN ns.sum) fun h₆ ra t0 u v k₆ hra tk₆ => iterR hra (by decide) (by omega) fun h₇ St₇ W₇ st₇ k₇ z₇ hin₇ => ?_))))))
  have k47 : Kp [] h₄ h₇ := k₆.trans k₇
  have B₇ := B₄.keeps k47
  have nJ : h₆.objs.size ∉ own env := (B₄.keeps k₆).new (Nat.le_refl _)
  have nJ0 : s.heap.get? h₆.objs.size = none := (B₄.keeps k₆).none (Nat.le_refl _)
  refine ⟨_, _, _, _, _, St₇, fun _ => true, fun _ v y => ∃ (j : Nat) (tj : Tok), v = .int (j : Int) tj ∧ ∃ ty, y = .str (evenAt ns.sum j) ty, rfl, W₇ _ k'.hd, st₇, ?_, B₇, fun b hb q => nJ (by rw [← List.mem_singleton.mp q]; exact hb), fun b q _ => by rw [List.mem_singleton.mp q]; exact nJ0, ?_⟩
  · refine ⟨by rw [sizeLine_eq]; omega, fun b hb => by rw [List.mem_singleton.mp hb]; exact Nat.lt_of_lt_of_eq (Nat.lt_succ_self _) z₇.symm, fun _ _ _ _ _ _ _ q => q, fun C i v s₃ m₃ E₃ _ _ _ _ _ _ _ => noTests (v := v), fun C j v s₃ m₃ E₃ hC hv _ hn hm hk hsz _ => ?_⟩
    obtain ⟨tj, rfl⟩ := hv
    have k3 : Kp [] h₄ s₃.heap := fun b o _ e => hk b o (notMem1 (Nat.ne_of_lt (Heap.lt_size (k₆.all _ _ e)))) (k47.all _ _ e)
    have ct3 := isCell_kp ct k3
    have cz3 := isCell_kp cz k3
    have cs3 := isCell_kp cs k3
    refine wpAny_IfExp (wpAny_isTrue_Compare1 (wpAny_BinOp (wpAny_BinOp (wpAny_BinOp (ldL hn hm (ldC cs3 (P.mul_int (wpAny_BinOp (ldC ct3 (wpAny_Constant_int (floordiv_int (by decide) (P.add_int (ldC cz3 (mod_int (by omega) (ldC cs3 (P.lt_int (wpAny_truthy_bool ?_)))))))))) (IntMulOk.of_right (bits8 _ (by omega))))))))))
    have ee : evenAt ns.sum (0 + j) = if (((0 + j : Nat) : Int) * (stN ns.sum : Int) + ns.sum.fdiv 36).fmod (szN ns.sum : Int) < (stN ns.sum : Int) then ⟨#[40]⟩ else ⟨#[41]⟩ := rfl
    by_cases hlt : (((0 + j : Nat) : Int) * (stN ns.sum : Int) + ns.sum.fdiv 36).fmod (szN ns.sum : Int) < (stN ns.sum : Int)
    · rw [if_pos (by simpa using hlt)]
      rw [if_pos hlt] at ee
      exact wpAny_Constant_str ⟨⟨0 + j, tj, rfl, _, by rw [ee]; rfl⟩, keepsT _ _⟩
    · rw [if_neg (by simpa using hlt)]
      rw [if_neg hlt] at ee
      exact wpAny_Constant_str ⟨⟨0 + j, tj, rfl, _, by rw [ee]; rfl⟩, keepsT _ _⟩
  intro h₈ tk₈ ys vs₈ S₈ hl₈ hP₈ hF₈ B₈ k₈
  obtain ⟨hys, hyv⟩ := range_paired (a := 0) (n := szN ns.sum) (R := fun j y => ∃ ty, y = Value.str (evenAt ns.sum j) ty) hl₈ hP₈ hF₈
  have sE : Strs ys.toList (evenL ns.sum) := strs_of (p := List.range (szN ns.sum)) (by simp [hys]) fun j y e => by
    obtain ⟨ty, e'⟩ := hyv j y (by simpa using e)
    have hj : j < szN ns.sum := by
      have := (List.getElem?_eq_some_iff.mp e).1
      simpa [hys] using this
    exact ⟨j, List.getElem?_range hj, ty, by rw [e', Nat.zero_add]⟩
  have hk8 : Kp ([h₆.objs.size] ++ own env) h₇ h₈ := k₈
  have l4 : 115 ≤ h₄.objs.size := Nat.le_trans hL (Nat.le_of_lt B₄.ns.lt)
  have l6 : 115 ≤ h₆.objs.size := Nat.le_trans hL (Nat.le_of_lt (B₄.keeps k₆).ns.lt)
  have l7 : 115 ≤ h₇.objs.size := Nat.le_trans hL (Nat.le_of_lt B₇.ns.lt)
  have nJ4 : h₄.get? h₆.objs.size = none := by
    cases e : h₄.get? h₆.objs.size with
    | none => rfl
    | some o => exact absurd (Heap.lt_size (k₆.all _ _ e)) (Nat.lt_irrefl _)
  have k48 : Kp (91 :: own env) h₄ h₈ := (Kp.of k47.all).new hk8 fun b hb n => by
    rcases List.mem_append.mp hb with hb | hb
    · rw [List.mem_singleton.mp hb]; exact nJ4
    · exact absurd (List.mem_cons_of_mem _ hb) n
  have k08 := k04.trans k48
  have tb₈ : TabOk h₈ := (tb₄.kp k47 (by simp)).kp hk8 (by
    intro q
    rcases List.mem_append.mp q with q | q
    · exact absurd (List.mem_singleton.mp q ▸ l6 : 115 ≤ 91) (by decide)
    · exact n91o q)
  have D₈ := kpL hD k08 (n91' D91 nD)
  have E₈ : h₈.PlainList h₇.objs.size ys := S₈
  (show wpAny _ _ (execs _ _) _ _ _; refine cut (P := fun st => wpAny _ _ (execs _ _) _ _ st) (h := h₈) (g := gs) (d := Shared.drawn s) (o := Shared.os s) fun _ => ?_)
  have r2 := R1.two
  have r8 := R1.eight
  have rl := ringS_len fun p hp => (R1.fits p hp).1
  have T₈ := tpB B₈
  refine wpAny_execs_cons (wpAny_Return_some (wpAny_And2 (Fn_ T₈ (gl_109 w) (by kernel_rfl) (wpAny_items_cons (ldL B₈.ns (by ktr_rel) (wpAny_items_cons (Fn_ T₈ (gl_104 w) (by kernel_rfl) (wpAny_items_cons (ldL B₈.ns (by ktr_rel) (wpAny_items_nil ⟨T₈, spread_ok T₈ (k'.less (by decide)) (by omega) (by omega) fun h₉ tk₉ k₉ => ?_⟩))))))))))
  have T₉ := T₈.kp k₉ Far.nil
  refine wpAny_items_nil ⟨T₉, right_ok T₉ k' R1 (kpL D₈ k₉ (by simp)) hS D91 (tb₈.kp k₉ (by simp)) hb fun h₁₀ tk₁₀ g₁₀ k₁₀ tb₁₀ b₁₀ => wpAny_truthy_bool ?_⟩
  rw [if_pos rfl]
  have B₁₀ := (B₈.keeps k₉).stay k₁₀ (fun b hb q => n91o (by rw [← List.mem_singleton.mp q]; exact hb)) (fun b hb n => absurd hb n)
  have E91 : h₇.objs.size ≠ 91 := fun q => absurd (q ▸ l7 : 115 ≤ 91) (by decide)
  have E₁₀ := kpL (kpL E₈ k₉ (by simp)) k₁₀ (notMem1 E91)
  have T₁₀ := tpB B₁₀
  exact Fn_ T₁₀ (gl_109 w) (by kernel_rfl) (wpAny_items_cons (ldL B₁₀.ns upd_eq (wpAny_items_cons (wpAny_Constant_bool (wpAny_items_nil ⟨T₁₀, right_ok T₁₀ k' R2 (by simpa using E₁₀) sE E91 tb₁₀ b₁₀ fun h₁₁ tk₁₁ g₁₁ k₁₁ tb₁₁ b₁₁ => hQ _ _ _ (B₁₀.keep.trans k₁₁) tb₁₁ b₁₁⟩)))))
end
end Mine
set_option maxHeartbeats 4000000
namespace Mine
local macro_rules | `(tactic| ktr_rel) => `(tactic| first | assumption | exact upd_eq | (refine upd_ne ?_ (by decide); ktr_rel))
section
variable {w : World} {A : Around} {E : Value → Shared → Prop} {s : Shared}
theorem law_ok {D : Addr} {vs : List Value} {ns : List Int} {ps : List Str} {Q : Value → Shared → Prop} (T : Tp w s.heap) (k : Ok A 8) (hD : s.heap.IsList D vs.toArray) (hI : IntsAre vs ns) (hl : ns.length ≤ 1000) (tb : TabOk s.heap) (hb : AllBare s.gens)
    (e1 : sentP (ns.take 6 ++ [16, 7]) = ps) (R1 : RightOk ps (spreadP (ringS ps))) (R2 : RightOk (evenL (ns.take 6).sum) true)
    (hQ : ∀ h' tk gs, Kp [91] s.heap h' → TabOk h' → AllBare gs → Q (.bool true) { s with heap := h', toks := tk, gens := gs }) :
    wpAny (model pr w) A (call (.ref 114) [.ref D]) Q E s := by
  refine wpAny_call (enter (a := 114) (binds := [("script", .ref D)]) T k rfl rfl (by kernel_rfl) rfl rfl rfl rfl (by decide) ?_)
  intro h₁ tk A' E' k' env B
  have tpB : ∀ {m cm : Str → Option Value} {h : Heap}, Bd [91] s.heap env m cm h → Tp w h := fun B => T.kp B.keep (fun b hb => .inr (List.mem_singleton.mp hb))
  have n91o : 91 ∉ own env := fun q => by have := B.ownNew 91 q; have := T.size; lia
  have keep0 := B.keep
  have B0 := B
  have B : Bd [91] s.heap env _ _ h₁ := { B with keep := B.keep.mono (fun _ q => nomatch q) }
  have hL := B.low T
  have hD₁ : h₁.IsList D vs.toArray := let ⟨o, e, q⟩ := hD; ⟨o, keep0.all _ _ e, q⟩
  have tb₁ := tb.kp keep0 (by simp)
  have hvl : vs.length = ns.length := IntsAre.len' hI
  refine wpAny_execs_cons (wpAny_Assign_Name (SlL_ (ldL B.ns (by ktr_rel) (wpAny_pure (wpAny_Constant_int (k := 0) (pos := ⟨0, 0, 0, 0⟩) ⟨D, vs.toArray, none, some ((6 : Nat) : Int), rfl, hD₁, by rw [List.size_toArray, sizeLine_eq]; lia, IsPart.none, IsPart.int _ _, fun h₂ k₂ P₂ => (B.keeps k₂).stL fun h₃ B₃ k₃ => ?_⟩)))))
  rw [slicePick_upto'] at P₂
  have P₂ : h₂.PlainList (h₁.objs.size + 1) (vs.take 6).toArray := P₂
  have nN : h₁.objs.size + 1 ∉ own env := B.new (Nat.le_succ _)
  have P₃ := kpL P₂ k₃ nN
  have k13 : Kp (91 :: own env) h₁ h₃ := (k₂.mono (by simp)).trans (k₃.mono fun b hb => .tail _ hb)
  have tb₃ : TabOk h₃ := (tb₁.kp k₂ (by simp)).kp k₃ n91o
  (show wpAny _ _ (execs _ _) _ _ _; refine cut (P := fun st => wpAny _ _ (execs _ _) _ _ st) (h := h₃) (g := s.gens) (d := Shared.drawn s) (o := Shared.os s) fun _ => ?_)
  have IN := ints_take 6 hI
  have I8 : ∀ x y, IntsAre (vs.take 6 ++ [Value.int 16 x, Value.int 7 y]) (ns.take 6 ++ [16, 7]) := fun x y => ints_app IN (.cons _ _ (.cons _ _ .nil))
  have n8 : (ns.take 6 ++ [16, 7] : List Int).length ≤ 8 := by simp; lia
  refine wpAny_execs_cons (wpAny_Assign_Name (Fn_ (tpB B₃) (gl_99 w) (by kernel_rfl) (wpAny_items_cons (wpAny_BinOp (ldL B₃.ns upd_eq (wpAny_List (wpAny_items_cons (wpAny_Constant_int (wpAny_items_cons (wpAny_Constant_int (wpAny_items_nil ⟨by show 2 ≤ sizeLine; decide, ?_⟩)))))))))))
  refine addL (kpL P₃ (Kp.push [] _ _) (by simp)) ⟨_, Heap.get?_push_size _ rfl⟩ ?_ fun h₄ k₄ P₄ => ?_
  · simp only [List.size_toArray, List.length_take, List.length_cons, List.length_nil, sizeLine_eq]; lia
  have k34 : Kp [] h₃ h₄ := (Kp.push [] _ _).trans k₄
  have T₄ : Tp w h₄ := (tpB B₃).kp k34 Far.nil
  refine wpAny_items_nil ⟨T₄, sent_ok T₄ (k'.less (by decide)) hb (vs := vs.take 6 ++ [Value.int 16 _, Value.int 7 _]) (by simpa using P₄) (I8 _ _) n8 fun D₅ us h₅ tk₅ g₅ L₅ S₅ nD₅ k₅ b₅ => ?_⟩
  rw [e1] at S₅
  have k35 := k34.trans k₅
  have B₅ := B₃.keeps k35
  refine B₅.stL fun h₆ B₆ k₆ => ?_
  have gone : ∀ {a : Addr} {o : Obj}, h₄.get? a = some o → a ≠ D₅ := fun e q => by rw [q, nD₅] at e; cases e
  have B₄ := B₃.keeps k34
  have nD : D₅ ∉ own env := fun q => by
    rcases List.mem_cons.mp q with q | q
    · obtain ⟨o, _, _, e, _⟩ := B₄.ns
      exact gone e q.symm
    · obtain ⟨⟨n, c⟩, hc, e⟩ := List.mem_map.mp q
      obtain ⟨o, e2, _⟩ := B₄.cell n c (lookup_of_mem_nodup B₄.nd hc)
      exact gone e2 e
  have tb₄ : TabOk h₄ := tb₃.kp k34 (by simp)
  have D91 : D₅ ≠ 91 := fun q => by obtain ⟨o, e, _⟩ := tb₄; exact gone e q.symm
  have L₆ := kpL L₅ k₆ nD
  have P₆ := kpL (kpL P₃ k35 (by simp)) k₆ nN
  have tb₆ : TabOk h₆ := (tb₃.kp k35 (by simp)).kp k₆ n91o
  have nN0 : s.heap.get? (h₁.objs.size + 1) = none := B.none (Nat.le_succ _)
  have n2 := R1.two
  have nps := R1.eight
  have hul : us.length = ps.length := S₅.length
  (show wpAny _ _ (execs _ _) _ _ _; refine cut (P := fun st => wpAny _ _ (execs _ _) _ _ st) (h := h₆) (g := g₅) (d := Shared.drawn s) (o := Shared.os s) fun _ => ?_)
  have kp : Kp [] h₆ (h₆.push { cls := .type "list", data := .seq [].toArray }) := Kp.push _ _ _
  refine wpAny_execs_cons (wpAny_If (wpAny_isTrue_Compare1 (ldL B₆.ns upd_eq (wpAny_List (wpAny_items_nil ⟨by decide, eqStrs (us := []) (ys := []) (kpL L₆ kp (by simp)) ⟨_, Heap.get?_push_size _ rfl⟩ S₅ rfl k'.units (wpAny_truthy_bool ?_)⟩)))))
  rw [decide_eq_false (fun q => by rw [q] at n2; simp at n2), if_neg (by decide)]
  refine wpAny_execs_nil ?_
  generalize hh7 : h₆.push { cls := .type "list", data := .seq [].toArray } = h₇ at kp ⊢
  have B₇ := B₆.keeps kp
  have L₇ := kpL L₆ kp (by simp)
  have P₇ := kpL P₆ kp (by simp)
  have tb₇ := tb₆.kp kp (by simp)
  (show wpAny _ _ (execs _ _) _ _ _; refine cut (P := fun st => wpAny _ _ (execs _ _) _ _ st) (h := h₇) (g := g₅) (d := Shared.drawn s) (o := Shared.os s) fun _ => ?_)
  refine wpAny_execs_cons (wpAny_Assign_Name (Meth_ (wpAny_Constant_str (SB.join (Comp_ (ldL B₇.ns upd_eq (iterL L₇.isList fun o₆ St₆ W₆ st₆ _ => ⟨_, _, _, _, _, St₆, fun _ => true, fun _ v y => ∃ x t, sv v = some x ∧ y = .str ((fun p : Str => (⟨(p.cps.toList.take 1).toArray⟩ : Str)) x) t, rfl, W₆ _ k'.hd, st₆, ?_, ?_⟩)))))))
  · refine ⟨?_, fun b hb => ?_, fun _ _ _ _ _ _ _ q => q, fun C i v s₃ m₃ E₃ _ _ _ _ _ _ _ => noTests (v := v), fun C i v s₃ m₃ E₃ _ hv _ hn hm _ _ _ => ?_⟩
    · rw [List.size_toArray, sizeLine_eq]; lia
    · show b < (Heap.push _ _).objs.size
      rw [Heap.size_push]
      rcases List.mem_cons.mp hb with rfl | hb
      · exact Nat.lt_succ_self _
      · rw [List.mem_singleton.mp hb]; exact Nat.lt_succ_of_lt (plain_lt L₇)
    · obtain ⟨y, hy, hsv⟩ := S₅.at (i := i) (v := v) (by simpa using hv)
      obtain ⟨u, rfl⟩ := sv_eq hsv
      have hyl := R1.fits y (List.mem_of_getElem? hy)
      refine SubS_ (ldL hn hm (wpAny_Constant_int ⟨y, u, 0, _, rfl, rfl, by lia, by lia, by rw [sizeLine_eq]; lia, fun c t' tk' hc => ⟨⟨y, t', rfl, ?_⟩, keepsT _ _⟩⟩))
      rw [if_neg (by decide)] at hc
      have : y.cps.toList.take 1 = [c] := by
        have hc' : y.cps.toList[0]? = some c := by simpa using hc
        cases hl : y.cps.toList with
        | nil => rw [hl] at hc'; cases hc'
        | cons a b => rw [hl] at hc'; cases hc'; rfl
      show _ = Value.str ⟨(y.cps.toList.take 1).toArray⟩ t'
      rw [this]
  intro h₈ tk₈ ys vs₈ hD₈ hl₈ hP₈ hF₈ hk₈
  have e := vs_eq hl₈ hP₈
  rw [List.filter_eq_self.mpr (fun _ _ => rfl), e] at hF₈
  have S2 : Strs ys.toList (firsts ps) := Strs.paired hF₈ S₅
  have k78 : Kp [] h₇ h₈ := fun b o _ e => hk₈ b o (notMem1 (Nat.ne_of_lt (Heap.lt_size e))) (Heap.get?_push_of_some _ e)
  have B₈ := B₇.keeps k78
  obtain ⟨l, hll, hl'⟩ := S2.values
  have hlen := sum_le (firsts_len ps)
  have hfl : (firsts ps).length = ps.length := by simp [firsts]
  refine ⟨_, l, rfl, by rw [← hll]; simpa using hD₈.isList, _, hl', joinOk_of (by rw [show (Str.ofString "").length = 0 from rfl]; lia), fun t' k => ?_⟩
  show wpAny _ _ (storeName _ _ (.str (ringS ps) t')) _ _ _
  refine B₈.stL fun h₉ B₉ k₉ => ?_
  have L₉ := kpL (kpL L₇ k78 (by simp)) k₉ nD
  have P₉ := kpL (kpL P₇ k78 (by simp)) k₉ nN
  have tb₉ : TabOk h₉ := (tb₇.kp k78 (by simp)).kp k₉ n91o
  (show wpAny _ _ (execs _ _) _ _ _; refine cut (P := fun st => wpAny _ _ (execs _ _) _ _ st) (h := h₉) (g := g₅) (d := Shared.drawn s) (o := Shared.os s) fun _ => ?_)
  exact law_b (s := s) (L := s.heap.objs.size) rfl rfl T k' b₅ tb₉ IN R1 R2 P₉ L₉ S₅ D91 B₉ (by ktr_rel) (by ktr_rel) upd_eq nN nD fun h' tk' gs a b c => hQ h' tk' gs a b c
end
end Mine
set_option maxHeartbeats 4000000
namespace Mine
/-- the units of a text, by themselves -/
def un : List Nat → Bool → List Str
  | [], e => if e then [⟨#[92]⟩] else []
  | c :: r, e => if e then ⟨#[92, c]⟩ :: un r false else if c = 92 then un r true else ⟨#[c]⟩ :: un r false
def esc : List Nat → Bool → Bool
  | [], e => e
  | c :: r, e => if e then esc r false else if c = 92 then esc r true else esc r false
def outq : List Str → Bool → List Nat
  | [], _ => []
  | u :: r, q => if u = ⟨#[34]⟩ then outq r (!q) else if q then outq r q else u.cps.toList ++ outq r q
def endq : List Str → Bool → Bool
  | [], q => q
  | u :: r, q => if u = ⟨#[34]⟩ then endq r (!q) else endq r q
theorem gen_un : ∀ (l : List Nat) (i : Nat) (e : Bool), (gen l i e).map (·.2) = un l e
  | [], i, e => by unfold gen un; cases e <;> rfl
  | c :: r, i, e => by
    unfold gen un
    split
    · simp [gen_un r]
    · split
      · exact gen_un r _ _
      · simp [gen_un r]
theorem un_t (c : Nat) (r : List Nat) : un (c :: r) true = ⟨#[92, c]⟩ :: un r false := rfl
theorem un_b (r : List Nat) : un (92 :: r) false = un r true := rfl
theorem un_c {c : Nat} (r : List Nat) (h : c ≠ 92) : un (c :: r) false = ⟨#[c]⟩ :: un r false := by show (if c = 92 then _ else _) = _; rw [if_neg h]
theorem esc_c {c : Nat} (r : List Nat) (h : c ≠ 92) : esc (c :: r) false = esc r false := by show (if c = 92 then _ else _) = _; rw [if_neg h]
theorem un_app : ∀ (a b : List Nat) (e : Bool), esc a e = false → un (a ++ b) e = un a e ++ un b false
  | [], b, e, h => by
    have h : e = false := h
    subst h; rfl
  | c :: r, b, true, h => by
    have ih := un_app r b false h
    rw [List.cons_append, un_t, un_t, ih]; rfl
  | c :: r, b, false, h => by
    rw [List.cons_append]
    by_cases hc : c = 92
    · subst hc
      have ih := un_app r b true h
      rw [un_b, un_b, ih]
    · rw [esc_c r hc] at h
      have ih := un_app r b false h
      rw [un_c _ hc, un_c _ hc, ih]; rfl
theorem esc_app : ∀ (a b : List Nat) (e : Bool), esc (a ++ b) e = esc b (esc a e)
  | [], b, e => rfl
  | c :: r, b, true => esc_app r b false
  | c :: r, b, false => by
    rw [List.cons_append]
    by_cases hc : c = 92
    · subst hc; exact esc_app r b true
    · rw [esc_c _ hc, esc_c _ hc]; exact esc_app r b false
theorem outq_q (r : List Str) (q : Bool) : outq (⟨#[34]⟩ :: r) q = outq r (!q) := by show (if _ then _ else _) = _; rw [if_pos rfl]
theorem endq_q (r : List Str) (q : Bool) : endq (⟨#[34]⟩ :: r) q = endq r (!q) := by show (if _ then _ else _) = _; rw [if_pos rfl]
theorem outq_n {u : Str} (r : List Str) (q : Bool) (h : u ≠ ⟨#[34]⟩) : outq (u :: r) q = (if q then [] else u.cps.toList) ++ outq r q := by
  show (if _ then _ else _) = _
  rw [if_neg h]
  cases q <;> rfl
theorem endq_n {u : Str} (r : List Str) (q : Bool) (h : u ≠ ⟨#[34]⟩) : endq (u :: r) q = endq r q := by show (if _ then _ else _) = _; rw [if_neg h]
theorem outq_app : ∀ (a b : List Str) (q : Bool), outq (a ++ b) q = outq a q ++ outq b (endq a q)
  | [], b, q => rfl
  | u :: r, b, q => by
    rw [List.cons_append]
    by_cases h : u = ⟨#[34]⟩
    · subst h; rw [outq_q, outq_q, endq_q, outq_app r b]
    · rw [outq_n _ _ h, outq_n _ _ h, endq_n _ _ h, outq_app r b, List.append_assoc]
theorem endq_app : ∀ (a b : List Str) (q : Bool), endq (a ++ b) q = endq b (endq a q)
  | [], b, q => rfl
  | u :: r, b, q => by
    rw [List.cons_append]
    by_cases h : u = ⟨#[34]⟩
    · subst h; rw [endq_q, endq_q, endq_app r b]
    · rw [endq_n _ _ h, endq_n _ _ h, endq_app r b]
theorem ne2 (c : Nat) : (⟨#[92, c]⟩ : Str) ≠ ⟨#[34]⟩ := fun h => by
  have := congrArg (fun s : Str => s.cps.size) h
  simp at this
theorem ne1 {c : Nat} (h : c ≠ 34) : (⟨#[c]⟩ : Str) ≠ ⟨#[34]⟩ := fun q => h (by simpa using congrArg (fun s : Str => s.cps.toList) q)
theorem outq_plain : ∀ (l : List Nat) (e : Bool), 34 ∉ l → outq (un l e) false = (if e then [92] else []) ++ l
  | [], e, _ => by cases e <;> rfl
  | c :: r, true, h => by
    have hr : 34 ∉ r := fun q => h (.tail _ q)
    rw [un_t, outq_n _ _ (ne2 c), outq_plain r false hr]; rfl
  | c :: r, false, h => by
    have hc : c ≠ 34 := fun q => h (q ▸ .head _)
    have hr : 34 ∉ r := fun q => h (.tail _ q)
    by_cases h9 : c = 92
    · subst h9
      rw [un_b, outq_plain r true hr]; rfl
    · rw [un_c _ h9, outq_n _ _ (ne1 hc), outq_plain r false hr]; rfl
/-- strip's loop: what is out when all before j is read -/
def outS (x : Str) (st : SS) (j : Nat) : List Nat := (st.res.map fun y => y.cps.toList).flatten ++ (x.cps.toList.drop st.start).take (j - st.start)
theorem slice2 {x : Str} {a b : Nat} (h : a ≤ b) (h2 : b ≤ x.length) : (Txt.slice x (some (a : Int)) (some (b : Int))).cps.toList = (x.cps.toList.drop a).take (b - a) := by
  have hl : x.length = x.cps.toList.length := by simp [Str.length]
  rw [beq_iff_eq.mp (slice_closes (x := x) (i := (a : Int)) (j := (b : Int)) ⟨by lia, by lia, by lia⟩)]
  have e : ((b : Int) - (a : Int)).toNat = b - a := by lia
  rw [e]; simp
theorem slice1 {x : Str} {a : Nat} (h : a ≤ x.length) : (Txt.slice x (some (a : Int)) none).cps.toList = x.cps.toList.drop a := by
  have hl : x.length = x.cps.toList.length := by simp [Str.length]
  rw [beq_iff_eq.mp (slice_closes_from (x := x) (i := (a : Int)) ⟨by lia, by lia⟩)]
  simp
  exact List.take_of_length_le (by simp)
theorem take_more {l : List Nat} {pre r : List Nat} {c a i : Nat} (hl : l = pre ++ c :: r) (hi : pre.length = i) (ha : a ≤ i) : (l.drop a).take (i + 1 - a) = (l.drop a).take (i - a) ++ [c] := by
  have e : i + 1 - a = (i - a) + 1 := by lia
  rw [e, List.take_add_one]
  congr 1
  rw [List.getElem?_drop]
  have : a + (i - a) = i := by lia
  rw [this, hl, List.getElem?_append_right (by lia)]
  simp [hi]
theorem outS_more {x : Str} {st : SS} {pre r : List Nat} {c i : Nat} (hl : x.cps.toList = pre ++ c :: r) (hi : pre.length = i) (ha : st.start ≤ i) : outS x st (i + 1) = outS x st i ++ [c] := by
  unfold outS
  rw [take_more hl hi ha, List.append_assoc]
theorem gen_t (c i : Nat) (r : List Nat) : gen (c :: r) i true = (i, ⟨#[92, c]⟩) :: gen r (i + 1) false := rfl
theorem gen_b (i : Nat) (r : List Nat) : gen (92 :: r) i false = gen r (i + 1) true := rfl
theorem gen_c {c : Nat} (i : Nat) (r : List Nat) (h : c ≠ 92) : gen (c :: r) i false = (i, ⟨#[c]⟩) :: gen r (i + 1) false := by show (if c = 92 then _ else _) = _; rw [if_neg h]
theorem sstep_n {x : Str} {st : SS} {p : Nat} {u : Str} (h : u ≠ ⟨#[34]⟩) : sstep x st (p, u) = st := if_neg h
def edge (st : SS) (i : Nat) : Nat := match st.op with | none => i | some o => o
theorem strip_fold (x : Str) : ∀ (l : List Nat) (i : Nat) (st : SS) (pre : List Nat) (e : Bool), x.cps.toList = pre ++ (if e then [92] else []) ++ l → pre.length = i → st.start ≤ edge st i → edge st i ≤ i → endq (un l e) st.op.isSome = false →
    let st' := (gen l (i + if e then 1 else 0) e).foldl (sstep x) st
    st'.op = none ∧ st'.start ≤ x.length ∧ (st'.res.map fun y => y.cps.toList).flatten ++ x.cps.toList.drop st'.start = outS x st (edge st i) ++ outq (un l e) st.op.isSome
  | [], i, st, pre, false, hx, hi, h1, h2, hq => by
    have hq : st.op.isSome = false := hq
    have ho : st.op = none := by cases h : st.op with | none => rfl | some o => rw [h] at hq; cases hq
    have hlen : x.length = i := by rw [show x.length = x.cps.toList.length by simp [Str.length], hx]; simp [hi]
    have he : edge st i = i := by unfold edge; rw [ho]
    rw [he] at h1
    refine ⟨ho, by show st.start ≤ _; lia, ?_⟩
    show (st.res.map fun y => y.cps.toList).flatten ++ x.cps.toList.drop st.start = _ ++ []
    rw [List.append_nil, he]
    unfold outS
    rw [List.take_of_length_le (by simp; have : x.cps.size = x.length := rfl; lia)]
  | [], i, st, pre, true, hx, hi, h1, h2, hq => by
    have hq : st.op.isSome = false := hq
    have ho : st.op = none := by cases h : st.op with | none => rfl | some o => rw [h] at hq; cases hq
    have hx : x.cps.toList = pre ++ 92 :: [] := by simpa using hx
    have hlen : x.length = i + 1 := by rw [show x.length = x.cps.toList.length by simp [Str.length], hx]; simp [hi]
    have he : edge st i = i := by unfold edge; rw [ho]
    rw [he] at h1
    have hs : sstep x st ((i + 1) - 1, ⟨#[92]⟩) = st := sstep_n (ne1 (by decide))
    intro st'
    have hf : st' = st := hs
    rw [hf]
    refine ⟨ho, by lia, ?_⟩
    show (st.res.map fun y => y.cps.toList).flatten ++ x.cps.toList.drop st.start = outS x st (edge st i) ++ outq [⟨#[92]⟩] st.op.isSome
    rw [he, hq]
    show _ = outS x st i ++ [92]
    unfold outS
    rw [List.append_assoc, ← take_more hx hi h1, List.take_of_length_le (by simp; have : x.cps.size = x.length := rfl; lia)]
  | c :: r, i, st, pre, true, hx, hi, h1, h2, hq => by
    have hx0 : x.cps.toList = pre ++ 92 :: (c :: r) := by simpa using hx
    have hx1 : x.cps.toList = (pre ++ [92]) ++ c :: r := by simpa using hx
    have hx2 : x.cps.toList = (pre ++ [92, c]) ++ (if false then [92] else []) ++ r := by simpa using hx
    have hq' : endq (un r false) st.op.isSome = false := by rw [un_t, endq_n _ _ (ne2 c)] at hq; exact hq
    have hs : sstep x st (i + 1, ⟨#[92, c]⟩) = st := sstep_n (ne2 c)
    have e2 : edge st i ≤ edge st (i + 2) := by unfold edge; cases st.op <;> simp
    have e3 : edge st (i + 2) ≤ i + 2 := by unfold edge at *; cases h : st.op with | none => simp | some o => rw [h] at h2; simp at h2 ⊢; lia
    have ih := strip_fold x r (i + 2) st (pre ++ [92, c]) false hx2 (by simp [hi]) (Nat.le_trans h1 e2) e3 hq'
    intro st'
    have hf : st' = (gen r (i + 2 + 0) false).foldl (sstep x) st := by
      show ((i + 1, ⟨#[92, c]⟩) :: gen r (i + 1 + 1) false).foldl (sstep x) st = _
      rw [List.foldl_cons, hs]
    rw [hf]
    refine ⟨ih.1, ih.2.1, ih.2.2.trans ?_⟩
    rw [un_t, outq_n _ _ (ne2 c)]
    cases ho : st.op with
    | none =>
      have ea : edge st i = i := by unfold edge; rw [ho]
      have eb : edge st (i + 2) = i + 2 := by unfold edge; rw [ho]
      rw [ea] at h1
      rw [ea, eb, outS_more hx1 (by simp [hi]) (Nat.le_succ_of_le h1), outS_more hx0 hi h1]
      simp
    | some o =>
      have ea : edge st i = o := by unfold edge; rw [ho]
      have eb : edge st (i + 2) = o := by unfold edge; rw [ho]
      rw [ea, eb]; rfl
  | c :: r, i, st, pre, false, hx, hi, h1, h2, hq => by
    have hx0 : x.cps.toList = pre ++ c :: r := by simpa using hx
    have hx1 : x.cps.toList = (pre ++ [c]) ++ (if false then [92] else []) ++ r := by simpa using hx
    have hil : i < x.length := by rw [show x.length = x.cps.toList.length by simp [Str.length], hx0]; simp [hi]
    by_cases h9 : c = 92
    · subst h9
      have hx2 : x.cps.toList = pre ++ (if true then [92] else []) ++ r := by simpa using hx
      rw [un_b] at hq ⊢
      exact strip_fold x r i st pre true hx2 hi h1 h2 hq
    have e3 : edge st (i + 1) ≤ i + 1 := by unfold edge at *; cases h : st.op with | none => simp | some o => rw [h] at h2; simp at h2 ⊢; lia
    have e2 : edge st i ≤ edge st (i + 1) := by unfold edge; cases st.op <;> simp
    rw [un_c _ h9] at hq ⊢
    by_cases h3 : c = 34
    · subst h3
      rw [endq_q] at hq
      rw [outq_q]
      intro st'
      cases ho : st.op with
      | none =>
        have ea : edge st i = i := by unfold edge; rw [ho]
        have hs : sstep x st (i, ⟨#[34]⟩) = { st with op := some i } := by simp [sstep, ho]
        rw [ho] at hq
        have ih := strip_fold x r (i + 1) { st with op := some i } (pre ++ [34]) false hx1 (by simp [hi]) (by rw [ea] at h1; exact h1) (Nat.le_succ i) hq
        have hf : st' = (gen r (i + 1 + 0) false).foldl (sstep x) { st with op := some i } := by
          show ((i + 0, ⟨#[34]⟩) :: gen r (i + 0 + 1) false).foldl (sstep x) st = _
          rw [List.foldl_cons, Nat.add_zero, hs]
        rw [hf]
        refine ⟨ih.1, ih.2.1, ih.2.2.trans ?_⟩
        rw [ea]; rfl
      | some o =>
        have ea : edge st i = o := by unfold edge; rw [ho]
        rw [ea] at h1 h2
        have hs : sstep x st (i, ⟨#[34]⟩) = ⟨if st.start ≠ o then st.res ++ [Txt.slice x (some (st.start : Int)) (some (o : Int))] else st.res, i + 1, none⟩ := by simp [sstep, ho]
        rw [ho] at hq
        have ih := strip_fold x r (i + 1) ⟨if st.start ≠ o then st.res ++ [Txt.slice x (some (st.start : Int)) (some (o : Int))] else st.res, i + 1, none⟩ (pre ++ [34]) false hx1 (by simp [hi]) (Nat.le_refl _) (Nat.le_refl _) hq
        have hf : st' = (gen r (i + 1 + 0) false).foldl (sstep x) ⟨if st.start ≠ o then st.res ++ [Txt.slice x (some (st.start : Int)) (some (o : Int))] else st.res, i + 1, none⟩ := by
          show ((i + 0, ⟨#[34]⟩) :: gen r (i + 0 + 1) false).foldl (sstep x) st = _
          rw [List.foldl_cons, Nat.add_zero, hs]
        rw [hf]
        refine ⟨ih.1, ih.2.1, ih.2.2.trans ?_⟩
        rw [ea]
        show outS x ⟨_, i + 1, none⟩ (i + 1) ++ outq (un r false) false = outS x st o ++ outq (un r false) false
        congr 1
        unfold outS
        dsimp only
        rw [Nat.sub_self, List.take_zero, List.append_nil]
        by_cases hso : st.start = o
        · rw [if_neg (by simp [hso]), hso, Nat.sub_self, List.take_zero, List.append_nil]
        · rw [if_pos hso, List.map_append, List.flatten_append, List.map_singleton, slice2 h1 (by lia)]
          simp
    · have hs : sstep x st (i, ⟨#[c]⟩) = st := sstep_n (ne1 h3)
      rw [endq_n _ _ (ne1 h3)] at hq
      rw [outq_n _ _ (ne1 h3)]
      have ih := strip_fold x r (i + 1) st (pre ++ [c]) false hx1 (by simp [hi]) (Nat.le_trans h1 e2) e3 hq
      intro st'
      have hf : st' = (gen r (i + 1 + 0) false).foldl (sstep x) st := by
        show (gen (c :: r) (i + 0) false).foldl (sstep x) st = _
        rw [gen_c _ _ h9, List.foldl_cons, Nat.add_zero, hs]
      rw [hf]
      refine ⟨ih.1, ih.2.1, ih.2.2.trans ?_⟩
      cases ho : st.op with
      | none =>
        have ea : edge st i = i := by unfold edge; rw [ho]
        have eb : edge st (i + 1) = i + 1 := by unfold edge; rw [ho]
        rw [ea] at h1
        rw [ea, eb, outS_more hx0 hi h1]
        simp
      | some o =>
        have ea : edge st i = o := by unfold edge; rw [ho]
        have eb : edge st (i + 1) = o := by unfold edge; rw [ho]
        rw [ea, eb]; rfl
theorem strip_out {x : Str} (h : endq (un x.cps.toList false) false = false) : (stripP x).cps.toList = outq (un x.cps.toList false) false := by
  unfold stripP
  split
  · have f := strip_fold x x.cps.toList 0 ⟨[], 0, none⟩ [] false (by simp) rfl (Nat.le_refl _) (Nat.le_refl _) h
    obtain ⟨_, f2, f3⟩ := f
    have f3 : ((sfold x).res.map fun y => y.cps.toList).flatten ++ x.cps.toList.drop (sfold x).start = [] ++ List.take (0 - 0) _ ++ outq (un x.cps.toList false) false := f3
    have f2 : (sfold x).start ≤ x.length := f2
    rw [Nat.sub_self, List.take_zero, List.nil_append, List.nil_append] at f3
    rw [join0, ← f3]
    split
    · rw [List.map_append, List.flatten_append, List.map_singleton, slice1 f2]; simp
    · rw [List.drop_of_length_le (by simp; have : x.cps.size = x.length := rfl; lia), List.append_nil]
  · rename_i h34
    rw [outq_plain _ _ h34]; rfl
end Mine
set_option maxHeartbeats 4000000
namespace Mine
def chkC : List Nat → Int → Bool
  | [], n => n == 0
  | c :: r, n => if Nat.beq c 40 then chkC r (n + 1) else if Nat.beq c 41 then (if n - 1 < 0 then false else chkC r (n - 1)) else chkC r n
def brs (us : List Str) : List Nat := us.filterMap fun u => if u = ⟨#[40]⟩ then some 40 else if u = ⟨#[41]⟩ then some 41 else none
theorem chk_brs : ∀ (ys : List (Nat × Str)) (n : Int), chk ys n = chkC (brs (ys.map (·.2))) n
  | [], n => rfl
  | (p, u) :: r, n => by
    unfold chk brs
    rw [List.map_cons, List.filterMap_cons]
    by_cases h1 : u = ⟨#[40]⟩
    · simp only [h1, if_true]
      rw [chk_brs r]; rfl
    · by_cases h2 : u = ⟨#[41]⟩
      · have h3 : (⟨#[41]⟩ : Str) ≠ ⟨#[40]⟩ := by decide
        simp only [h2, h3, if_false, if_true]
        rw [chk_brs r]; rfl
      · simp only [h1, h2, if_false]
        exact chk_brs r n
theorem checkP_eq (x : Str) : checkP x = chkC (brs (un (stripP x).cps.toList false)) 0 := by
  unfold checkP
  rw [chk_brs, gen_un]
/-- a segment that leaves no quote and no escape open -/
def so (g : List Nat) : List Nat := outq (un g false) false
structure Good (g : List Nat) : Prop where
  e1 : esc g false = false
  q1 : endq (un g false) false = false
  e2 : esc (so g) false = false
theorem segs : ∀ (ss : List (List Nat)), (∀ g ∈ ss, Good g) → esc ss.flatten false = false ∧ endq (un ss.flatten false) false = false ∧ outq (un ss.flatten false) false = (ss.map so).flatten ∧ un (ss.map so).flatten false = (ss.map fun g => un (so g) false).flatten
  | [], _ => ⟨rfl, rfl, rfl, rfl⟩
  | g :: ss, h => by
    have hg := h g (.head _)
    obtain ⟨a, b, c, d⟩ := segs ss fun g hg => h g (.tail _ hg)
    rw [List.flatten_cons, un_app _ _ _ hg.e1, esc_app, hg.e1, endq_app, hg.q1, outq_app, hg.q1, List.map_cons, List.flatten_cons, un_app _ _ _ hg.e2]
    exact ⟨a, b, by rw [c]; rfl, by rw [d]; simp⟩
theorem segs_strip {x : Str} {ss : List (List Nat)} (hx : x.cps.toList = ss.flatten) (h : ∀ g ∈ ss, Good g) : (stripP x).cps.toList = (ss.map so).flatten ∧ un (stripP x).cps.toList false = (ss.map fun g => un (so g) false).flatten := by
  obtain ⟨a, b, c, d⟩ := segs ss h
  have e := strip_out (x := x) (by rw [hx]; exact b)
  rw [hx, c] at e
  exact ⟨e, by rw [e, d]⟩
/-- pieces: a bracket and a tail -/
def Bt (p : Nat × Nat) : Prop := (p.1 = 40 ∨ p.1 = 41) ∧ p.2 < 6
def pcS (p : Nat × Nat) : Str := ⟨#[p.1]⟩ ++ written.getD p.2 ⟨#[]⟩
def pc (p : Nat × Nat) : List Nat := p.1 :: (written.getD p.2 ⟨#[]⟩).cps.toList
theorem pc_eq (p : Nat × Nat) : (pcS p).cps.toList = pc p := by unfold pcS pc; rw [cps_toList_append]; rfl
theorem pc_dec : ∀ b ∈ [40, 41], ∀ t : Nat, t < 6 → (esc (pc (b, t)) false = false ∧ endq (un (pc (b, t)) false) false = false ∧ esc (so (pc (b, t))) false = false) ∧ brs (un (so (pc (b, t))) false) = [b] := by decide +kernel
theorem pc_ok {p : Nat × Nat} (h : Bt p) : Good (pc p) ∧ brs (un (so (pc p)) false) = [p.1] := by
  obtain ⟨b, t⟩ := p
  have hb : b ∈ [40, 41] := by rcases h.1 with h | h <;> (have h : b = _ := h; subst h; simp)
  obtain ⟨⟨a1, a2, a3⟩, a4⟩ := pc_dec b hb t h.2
  exact ⟨⟨a1, a2, a3⟩, a4⟩
theorem brs_flat {α : Type} (f : α → List Str) (g : α → Nat) : ∀ l : List α, (∀ a ∈ l, brs (f a) = [g a]) → brs (l.map f).flatten = l.map g
  | [], _ => rfl
  | a :: l, h => by
    have e1 := h a (.head _)
    have e2 := brs_flat f g l fun a ha => h a (.tail _ ha)
    unfold brs at *
    rw [List.map_cons, List.flatten_cons, List.filterMap_append, e1, e2]; rfl
theorem check_bts {x : Str} {l : List (Nat × Nat)} (hx : x.cps.toList = (l.map pc).flatten) (h : ∀ p ∈ l, Bt p) : checkP x = chkC (l.map (·.1)) 0 := by
  rw [checkP_eq, (segs_strip hx fun g hg => by obtain ⟨p, hp, rfl⟩ := List.mem_map.mp hg; exact (pc_ok (h p hp)).1).2, List.map_map]
  have e := brs_flat (fun p => un (so (pc p)) false) (fun p : Nat × Nat => p.1) l fun p hp => (pc_ok (h p hp)).2
  exact congrArg (chkC · 0) e
theorem flat_rep (c k : Nat) : ((List.replicate k (c, 0)).map pc).flatten = List.replicate k c := by
  induction k with
  | zero => rfl
  | succ k ih => rw [List.replicate_succ, List.map_cons, List.flatten_cons, ih]; rfl
theorem check_par {l : List (Nat × Nat)} {a c : Nat} (h : ∀ p ∈ l, Bt p) : checkP (par 40 a ++ Txt.join ⟨#[]⟩ (l.map pcS) ++ par 41 c) = chkC (List.replicate a 40 ++ l.map (·.1) ++ List.replicate c 41) 0 := by
  rw [check_bts (l := List.replicate a (40, 0) ++ l ++ List.replicate c (41, 0))]
  · simp
  · rw [cps_toList_append, cps_toList_append, join0, List.map_append, List.map_append, List.flatten_append, List.flatten_append, flat_rep, flat_rep, List.map_map]
    have e : (fun x : Str => x.cps.toList) ∘ pcS = pc := funext pc_eq
    rw [e]
    unfold par
    simp
  · intro p hp
    rcases List.mem_append.mp hp with hp | hp
    · rcases List.mem_append.mp hp with hp | hp
      · rw [(List.mem_replicate.mp hp).2]; exact ⟨.inl rfl, by decide⟩
      · exact h p hp
    · rw [(List.mem_replicate.mp hp).2]; exact ⟨.inr rfl, by decide⟩
end Mine
set_option maxHeartbeats 4000000
namespace Mine
def bt (n : Int) : Nat × Nat := (brkC n, tl n)
theorem bt_ok (n : Int) : Bt (bt n) := ⟨by unfold bt brkC; by_cases h : n.fmod 2 = 0 <;> simp [h], tl_lt n⟩
def rd (p : Nat × Nat) : Str := ⟨#[p.1]⟩ ++ readT.getD p.2 ⟨#[]⟩
def cmL (c : Nat) : List Nat := (commaT.getD c ⟨#[]⟩).cps.toList
def bareL (p : Nat × Nat) : List Nat := p.1 :: (bareT.getD p.2 ⟨#[]⟩).cps.toList
def hseg (f : Bool) (n : Int) : List Nat := (if f then [] else cmL (cm3 n)) ++ pc (bt n)
def lseg (f : Bool) (n : Int) : List Nat := (if f then [] else cmL (cm3 n)) ++ bareL (bt n)
def along {α : Type} (g : Bool → Int → α) : Bool → List Int → List α
  | _, [] => []
  | f, n :: r => g f n :: along g false r
theorem seg_dec : ∀ b ∈ [40, 41], ∀ t : Nat, t < 6 → ∀ c ∈ [[], cmL 0, cmL 1, cmL 2], (esc (c ++ pc (b, t)) false = false ∧ endq (un (c ++ pc (b, t)) false) false = false ∧ esc (so (c ++ pc (b, t))) false = false) ∧
    so (c ++ pc (b, t)) = c ++ bareL (b, t) ∧ (un (so (c ++ pc (b, t))) false).filter isBr = [⟨#[b]⟩] := by decide +kernel
theorem seg_ok (f : Bool) (n : Int) : Good (hseg f n) ∧ so (hseg f n) = lseg f n ∧ (un (so (hseg f n)) false).filter isBr = [⟨#[brkC n]⟩] := by
  have h := bt_ok n
  have hb : brkC n ∈ [40, 41] := by rcases h.1 with h | h <;> (have h : brkC n = _ := h; rw [h]; simp)
  have hc : (if f then [] else cmL (cm3 n)) ∈ [[], cmL 0, cmL 1, cmL 2] := by
    cases f with
    | true => exact .head _
    | false =>
      have := cm3_lt n
      have : cm3 n = 0 ∨ cm3 n = 1 ∨ cm3 n = 2 := by lia
      rcases this with e | e | e <;> simp [e]
  obtain ⟨⟨a1, a2, a3⟩, a4, a5⟩ := seg_dec _ hb _ h.2 _ hc
  exact ⟨⟨a1, a2, a3⟩, a4, a5⟩
theorem est_all : ∀ (ns : List Int) (st : SE), (ns.foldl estep st).pieces = st.pieces ++ ns.map (fun n => pcS (bt n)) ∧ (ns.foldl estep st).items = st.items ++ ns.map (fun n => rd (bt n)) ∧
    (ns.foldl estep st).header.cps.toList = st.header.cps.toList ++ (along hseg st.items.isEmpty ns).flatten ∧ (ns.foldl estep st).left.cps.toList = st.left.cps.toList ++ (along lseg st.items.isEmpty ns).flatten
  | [], st => by simp [along]
  | n :: ns, st => by
    obtain ⟨a, b, c, d⟩ := est_all ns (estep st n)
    have e1 : (estep st n).pieces = st.pieces ++ [pcS (bt n)] := rfl
    have e2 : (estep st n).items = st.items ++ [rd (bt n)] := rfl
    have e3 : (estep st n).header.cps.toList = st.header.cps.toList ++ hseg st.items.isEmpty n := by
      show (st.header ++ (if st.items ≠ [] then commaT.getD (cm3 n) ⟨#[]⟩ else Str.ofString "") ++ ⟨#[brkC n]⟩ ++ written.getD (tl n) ⟨#[]⟩ : Str).cps.toList = _
      rw [cps_toList_append, cps_toList_append, cps_toList_append]
      unfold hseg pc cmL
      cases h : st.items with
      | nil => simp [bt]; rfl
      | cons x y => simp [bt]
    have e4 : (estep st n).left.cps.toList = st.left.cps.toList ++ lseg st.items.isEmpty n := by
      show (st.left ++ (if st.items ≠ [] then commaT.getD (cm3 n) ⟨#[]⟩ else Str.ofString "") ++ ⟨#[brkC n]⟩ ++ bareT.getD (tl n) ⟨#[]⟩ : Str).cps.toList = _
      rw [cps_toList_append, cps_toList_append, cps_toList_append]
      unfold lseg bareL cmL
      cases h : st.items with
      | nil => simp [bt]; rfl
      | cons x y => simp [bt]
    have e5 : (estep st n).items.isEmpty = false := by rw [e2]; simp
    rw [e5] at c d
    refine ⟨by rw [List.foldl_cons, a, e1]; simp, by rw [List.foldl_cons, b, e2]; simp, by rw [List.foldl_cons, c, e3]; simp [along], by rw [List.foldl_cons, d, e4]; simp [along]⟩
theorem along_good : ∀ (f : Bool) (ns : List Int), (∀ g ∈ along hseg f ns, Good g) ∧ (along hseg f ns).map so = along lseg f ns ∧ ((along hseg f ns).map fun g => un (so g) false).flatten.filter isBr = ns.map fun n => ⟨#[brkC n]⟩
  | f, [] => ⟨fun _ h => (nomatch h), rfl, rfl⟩
  | f, n :: ns => by
    obtain ⟨a, b, c⟩ := along_good false ns
    obtain ⟨x, y, z⟩ := seg_ok f n
    refine ⟨fun g hg => ?_, ?_, ?_⟩
    · rcases List.mem_cons.mp hg with rfl | hg
      · exact x
      · exact a g hg
    · show so (hseg f n) :: (along hseg false ns).map so = lseg f n :: along lseg false ns
      rw [b, y]
    · show (un (so (hseg f n)) false ++ ((along hseg false ns).map fun g => un (so g) false).flatten).filter isBr = _
      rw [List.filter_append, z, c]; rfl
/-- parse -/
def leadT : List Str := [⟨#[]⟩, ⟨#[32]⟩, ⟨#[9, 10]⟩]
def trailT : List Str := [⟨#[]⟩, ⟨#[]⟩, ⟨#[32]⟩]
theorem strip_dec : ∀ b ∈ [40, 41], ∀ t : Nat, t < 6 → ∀ w ∈ leadT, ∀ c ∈ trailT, Txt.strip (w ++ rd (b, t) ++ c) = rd (b, t) := by decide +kernel
theorem pstep_first {b t : Nat} (hb : b = 40 ∨ b = 41) (ht : t < 6) : (pc (b, t)).foldl pstep ⟨[], ⟨#[]⟩, false, false⟩ = ⟨[], leadT.getD 0 ⟨#[]⟩ ++ rd (b, t), false, false⟩ := by
  have : t = 0 ∨ t = 1 ∨ t = 2 ∨ t = 3 ∨ t = 4 ∨ t = 5 := by lia
  rcases hb with rfl | rfl <;> rcases this with rfl | rfl | rfl | rfl | rfl | rfl <;> rfl
theorem pstep_next {b t c : Nat} (hb : b = 40 ∨ b = 41) (ht : t < 6) (hc : c < 3) (us : List Str) (p : Str) : (cmL c ++ pc (b, t)).foldl pstep ⟨us, p, false, false⟩ = ⟨us ++ [if c = 2 then p ++ ⟨#[32]⟩ else p], leadT.getD c ⟨#[]⟩ ++ rd (b, t), false, false⟩ := by
  have : t = 0 ∨ t = 1 ∨ t = 2 ∨ t = 3 ∨ t = 4 ∨ t = 5 := by lia
  have : c = 0 ∨ c = 1 ∨ c = 2 := by lia
  rcases this with rfl | rfl | rfl <;> rcases hb with rfl | rfl <;> rcases ‹t = 0 ∨ _› with rfl | rfl | rfl | rfl | rfl | rfl <;> rfl
end Mine
set_option maxHeartbeats 4000000
namespace Mine
theorem strip_part {b t w : Nat} (hb : b = 40 ∨ b = 41) (ht : t < 6) (hw : w < 3) (c : Nat) : Txt.strip (if c = 2 then (leadT.getD w ⟨#[]⟩ ++ rd (b, t)) ++ ⟨#[32]⟩ else leadT.getD w ⟨#[]⟩ ++ rd (b, t)) = rd (b, t) ∧ Txt.strip (leadT.getD w ⟨#[]⟩ ++ rd (b, t)) = rd (b, t) := by
  have hb' : b ∈ [40, 41] := by rcases hb with h | h <;> simp [h]
  have hw' : leadT.getD w ⟨#[]⟩ ∈ leadT := by
    have : w = 0 ∨ w = 1 ∨ w = 2 := by omega
    rcases this with rfl | rfl | rfl <;> decide
  have a := strip_dec b hb' t ht _ hw' ⟨#[32]⟩ (by decide)
  have e := strip_dec b hb' t ht _ hw' ⟨#[]⟩ (by decide)
  rw [Str.append_right_empty (y := ⟨#[]⟩) rfl] at e
  refine ⟨?_, e⟩
  split
  · exact a
  · exact e
theorem parse_go : ∀ (ns : List Int) (us : List Str) (w b t : Nat), w < 3 → (b = 40 ∨ b = 41) → t < 6 →
    let st := ((along hseg false ns).flatten).foldl pstep ⟨us, leadT.getD w ⟨#[]⟩ ++ rd (b, t), false, false⟩
    st.part.length ≠ 0 ∧ (st.res ++ [st.part]).map Txt.strip = us.map Txt.strip ++ rd (b, t) :: ns.map fun n => rd (bt n)
  | [], us, w, b, t, hw, hb, ht => by
    refine ⟨?_, ?_⟩
    · show (leadT.getD w ⟨#[]⟩ ++ rd (b, t)).length ≠ 0
      rw [strLen_append]
      unfold rd
      rw [strLen_append]
      have : (⟨#[(b, t).1]⟩ : Str).length = 1 := rfl
      omega
    · show (us ++ [leadT.getD w ⟨#[]⟩ ++ rd (b, t)]).map Txt.strip = _
      rw [List.map_append, List.map_singleton, (strip_part hb ht hw 0).2]; rfl
  | n :: ns, us, w, b, t, hw, hb, ht => by
    have hn := bt_ok n
    have ih := parse_go ns (us ++ [if cm3 n = 2 then (leadT.getD w ⟨#[]⟩ ++ rd (b, t)) ++ ⟨#[32]⟩ else leadT.getD w ⟨#[]⟩ ++ rd (b, t)]) (cm3 n) (brkC n) (tl n) (cm3_lt n) hn.1 hn.2
    have e : ((along hseg false (n :: ns)).flatten).foldl pstep ⟨us, leadT.getD w ⟨#[]⟩ ++ rd (b, t), false, false⟩ = ((along hseg false ns).flatten).foldl pstep ⟨us ++ [if cm3 n = 2 then (leadT.getD w ⟨#[]⟩ ++ rd (b, t)) ++ ⟨#[32]⟩ else leadT.getD w ⟨#[]⟩ ++ rd (b, t)], leadT.getD (cm3 n) ⟨#[]⟩ ++ rd (brkC n, tl n), false, false⟩ := by
      show (hseg false n ++ (along hseg false ns).flatten).foldl pstep _ = _
      rw [List.foldl_append]
      show List.foldl pstep ((cmL (cm3 n) ++ pc (brkC n, tl n)).foldl pstep _) _ = _
      rw [pstep_next (b := brkC n) (t := tl n) hn.1 hn.2 (cm3_lt n)]
    intro st
    have hst : st = _ := e
    rw [hst]
    refine ⟨ih.1, ih.2.trans ?_⟩
    rw [List.map_append, List.map_singleton, (strip_part hb ht hw (cm3 n)).1]
    simp [bt]
theorem sentP_eq {ns : List Int} (h : ns ≠ []) : sentP ns = ns.map fun n => pcS (bt n) := by
  obtain ⟨a, b, c, d⟩ := est_all ns ⟨[], [], Str.ofString "", Str.ofString ""⟩
  have ee : ns.foldl estep ⟨[], [], Str.ofString "", Str.ofString ""⟩ = est ns := rfl
  rw [ee] at a b c d
  have z : (Str.ofString "").cps.toList = [] := rfl
  simp only [List.nil_append, z, List.isEmpty_nil] at a b c d
  obtain ⟨g1, g2, g3⟩ := along_good true ns
  obtain ⟨s1, s2⟩ := segs_strip c g1
  rw [g2, ← d] at s1
  have h2 : stripP (est ns).header = (est ns).left := strExt s1
  have h3 : told (stripP (est ns).header) = firsts (est ns).pieces := by
    unfold told
    rw [gen_un, s2, g3, a]
    unfold firsts
    rw [List.map_map]
    refine List.map_congr_left fun n _ => ?_
    show _ = (⟨((pcS (bt n)).cps.toList.take 1).toArray⟩ : Str)
    rw [pc_eq]; rfl
  have h1 : (parseL (est ns).header).map Txt.strip = (est ns).items := by
    unfold parseL pst
    rw [show (est ns).header.cps.toList.take (est ns).header.cps.size = (est ns).header.cps.toList from List.take_of_length_le (by simp), b, c]
    cases ns with
    | nil => exact absurd rfl h
    | cons n ns =>
      have hn := bt_ok n
      have ih := parse_go ns [] 0 (brkC n) (tl n) (by decide) hn.1 hn.2
      have e : ((along hseg true (n :: ns)).flatten).foldl pstep ⟨[], ⟨#[]⟩, false, false⟩ = ((along hseg false ns).flatten).foldl pstep ⟨[], leadT.getD 0 ⟨#[]⟩ ++ rd (brkC n, tl n), false, false⟩ := by
        show (([] ++ pc (brkC n, tl n)) ++ (along hseg false ns).flatten).foldl pstep _ = _
        rw [List.foldl_append, List.nil_append, pstep_first (b := brkC n) (t := tl n) hn.1 hn.2]
      rw [e]
      dsimp only at ih ⊢
      rw [if_neg ih.1, ih.2]; rfl
  unfold sentP
  dsimp only
  rw [if_pos ⟨h1, h2, h3⟩, a]
end Mine
set_option maxHeartbeats 4000000
namespace Mine
def mkM : Nat → Nat → List Nat
  | 0, _ => []
  | n + 1, k => Nat.add 40 (Nat.mod (Nat.div k (Nat.pow 2 n)) 2) :: mkM n (Nat.mod k (Nat.pow 2 n))
def rotF (n K i : Nat) : Nat := Nat.add (Nat.mul (Nat.mod K (Nat.pow 2 (Nat.sub n i))) (Nat.pow 2 i)) (Nat.div K (Nat.pow 2 (Nat.sub n i)))
def ltF (n K i j : Nat) : Bool := Nat.blt (rotF n K i) (rotF n K j)
def runF {α : Type} (n : Nat) (lt : Nat → Nat → Bool) : KasT α → Option α
  | .ret a => some a
  | .ask i j k => if (Nat.blt i n && Nat.blt j n) = true then runF n lt (k (lt i j)) else none
def permF (n K : Nat) : List Nat := match runF n (ltF n K) (kas_sort n) with
  | some p => p.toList
  | none => []
def aheadF (n K p : Nat) : Nat := ((List.range n).filter fun o => ltF n K o p || (Nat.beq (rotF n K o) (rotF n K p) && Nat.blt o p)).length
def prevF (n i : Nat) : Nat := match i with | 0 => n - 1 | i + 1 => i
def colF (l p : List Nat) : List Nat := p.map fun i => l.getD (prevF l.length i) 0
def putF (c i : Nat) : List (Nat × Nat) → List (Nat × Nat)
  | [] => [(c, i)]
  | e :: r => if Nat.blt c e.1 = true then (c, i) :: e :: r else e :: putF c i r
def stabF (cl : List Nat) (n : Nat) : List (Nat × Nat) := (List.range n).foldl (fun bs i => putF (cl.getD i 0) i bs) []
def backF (cl st : List Nat) : Nat → Nat → List Nat
  | 0, _ => []
  | k + 1, a => cl.getD (st.getD a 0) 0 :: backF cl st k (st.getD a 0)
def beqL : List Nat → List Nat → Bool
  | [], [] => true
  | a :: x, b :: y => Nat.beq a b && beqL x y
  | _, _ => false
def cntF : List Nat → Nat
  | [] => 0
  | c :: r => if Nat.beq c 40 = true then Nat.succ (cntF r) else cntF r
def spreadF (l : List Nat) : Bool := (List.range (l.length - 1)).all fun k => let cs := (List.range l.length).map fun p => cntF (((l ++ l).drop p).take (1 + k)); cs.all fun a => cs.all fun b => Nat.ble a (b + 1)
def restF (n K : Nat) (l p c : List Nat) (o : Nat) : Bool :=
  Nat.beq p.length n && (p.all fun i => Nat.blt i n) && (p.any fun i => Nat.beq i 0) && ((List.range n).all fun q => match p[aheadF n K q]? with | some x => Nat.beq x q | none => false)
   && beqL (backF c ((stabF c n).map (·.2)) n (p.idxOf 0)) l && chkC (List.replicate (n - o) 40 ++ c ++ List.replicate o 41) 0
   && !chkC (List.replicate (n - o) 40 ++ c ++ List.replicate (o - 1) 41) 0
   && (chkC (List.replicate (n - o - 1) 40 ++ c ++ List.replicate (o - 1) 41) 0 == !spreadF l)
def okF (n k : Nat) : Bool := Nat.beq (cntF (mkM n k)) 0 || Nat.beq (cntF (mkM n k)) n || restF n k (mkM n k) (permF n k) (colF (mkM n k) (permF n k)) (cntF (mkM n k))
end Mine
set_option maxHeartbeats 4000000
namespace Mine
def valL : List Nat → Nat
  | [] => 0
  | c :: r => (c - 40) * 2 ^ r.length + valL r
theorem valL_cons (c : Nat) (r : List Nat) : valL (c :: r) = (c - 40) * 2 ^ r.length + valL r := rfl
def Br (l : List Nat) : Prop := ∀ c ∈ l, c = 40 ∨ c = 41
theorem valL_lt : ∀ {l : List Nat}, Br l → valL l < 2 ^ l.length
  | [], _ => by decide
  | c :: r, h => by
    have ih := valL_lt (l := r) fun x hx => h x (.tail _ hx)
    have hc := h c (.head _)
    unfold valL
    rw [List.length_cons, Nat.pow_succ]
    rcases hc with rfl | rfl <;> lia
theorem valL_app : ∀ (a b : List Nat), valL (a ++ b) = valL a * 2 ^ b.length + valL b
  | [], b => by simp [valL]
  | c :: r, b => by
    rw [List.cons_append, valL_cons, valL_cons, valL_app r b, List.length_append, Nat.pow_add, Nat.add_mul, Nat.mul_assoc, Nat.add_assoc]
theorem valL_lt_iff : ∀ {x y : List Nat}, Br x → Br y → x.length = y.length → ((x < y) ↔ valL x < valL y) ∧ (x = y ↔ valL x = valL y)
  | [], [], _, _, _ => by simp
  | a :: x, b :: y, hx, hy, hl => by
    have hl' : x.length = y.length := by simpa using hl
    have hx' : Br x := fun c hc => hx c (.tail _ hc)
    have hy' : Br y := fun c hc => hy c (.tail _ hc)
    obtain ⟨i1, i2⟩ := valL_lt_iff hx' hy' hl'
    have v1 := valL_lt hx'
    have v2 := valL_lt hy'
    rw [hl'] at v1
    rw [List.cons_lt_cons_iff, i1, List.cons.injEq, i2]
    rw [valL_cons, valL_cons, hl']
    rcases hx a (.head _) with rfl | rfl <;> rcases hy b (.head _) with rfl | rfl <;> simp <;> lia
theorem Br.drop {l : List Nat} (h : Br l) (i : Nat) : Br (l.drop i) := fun c hc => h c (List.mem_of_mem_drop hc)
theorem Br.take {l : List Nat} (h : Br l) (i : Nat) : Br (l.take i) := fun c hc => h c (List.mem_of_mem_take hc)
theorem Br.app {a b : List Nat} (h : Br a) (h' : Br b) : Br (a ++ b) := fun c hc => (List.mem_append.mp hc).elim (h c) (h' c)
theorem rot_eq {l : List Nat} (h : Br l) {i : Nat} (hi : i ≤ l.length) : rotF l.length (valL l) i = valL (l.drop i ++ l.take i) := by
  have hb := valL_lt (h.drop i)
  have e : valL l = valL (l.take i) * 2 ^ (l.drop i).length + valL (l.drop i) := by rw [← valL_app, List.take_append_drop]
  rw [List.length_drop] at hb e
  rw [valL_app, List.length_take, Nat.min_eq_left hi]
  show (valL l % 2 ^ (l.length - i)) * 2 ^ i + valL l / 2 ^ (l.length - i) = _
  have hp : 0 < 2 ^ (l.length - i) := Nat.pow_pos (by decide)
  rw [e, Nat.mul_comm (valL (l.take i)), Nat.mul_add_mod, Nat.mod_eq_of_lt hb, Nat.mul_add_div hp, Nat.div_eq_of_lt hb, Nat.add_zero]
theorem mkM_val : ∀ {l : List Nat}, Br l → mkM l.length (valL l) = l
  | [], _ => rfl
  | c :: r, h => by
    have hr : Br r := fun x hx => h x (.tail _ hx)
    have v := valL_lt hr
    have ih := mkM_val hr
    have hp : 0 < 2 ^ r.length := Nat.pow_pos (by decide)
    show (40 + (valL (c :: r) / 2 ^ r.length) % 2) :: mkM r.length (valL (c :: r) % 2 ^ r.length) = _
    have e : valL (c :: r) = 2 ^ r.length * (c - 40) + valL r := by show (c - 40) * 2 ^ r.length + valL r = _; rw [Nat.mul_comm]
    rw [e, Nat.mul_add_mod, Nat.mod_eq_of_lt v, Nat.mul_add_div hp, Nat.div_eq_of_lt v, Nat.add_zero, ih]
    rcases h c (.head _) with rfl | rfl <;> rfl
section
variable {r : Str} {l : List Nat}
theorem turn_list (hr : r.cps.toList = l) {i : Nat} (hi : i ≤ l.length) : (turnS r i).cps.toList = l.drop i ++ l.take i := by
  have hl : r.length = l.length := by rw [← hr]; simp [Str.length]
  rw [turnS_eq (by lia), hr]
theorem lt_eq (hr : r.cps.toList = l) (h : Br l) {i j : Nat} (hi : i < l.length) (hj : j < l.length) : ltv (turnS r i) (some (turnS r j)) = ltF l.length (valL l) i j := by
  have ti := turn_list hr (Nat.le_of_lt hi)
  have tj := turn_list hr (Nat.le_of_lt hj)
  show decide ((turnS r i).cps.toList < (turnS r j).cps.toList) = Nat.blt _ _
  rw [rot_eq h (Nat.le_of_lt hi), rot_eq h (Nat.le_of_lt hj), ti, tj]
  have q := (valL_lt_iff ((h.drop i).app (h.take i)) ((h.drop j).app (h.take j)) (by simp; lia)).1
  rw [Bool.eq_iff_iff, decide_eq_true_iff, q, Nat.blt_eq]
theorem tie_eq (hr : r.cps.toList = l) (h : Br l) {i j : Nat} (hi : i < l.length) (hj : j < l.length) : decide (turnS r i = turnS r j) = Nat.beq (rotF l.length (valL l) i) (rotF l.length (valL l) j) := by
  have ti := turn_list hr (Nat.le_of_lt hi)
  have tj := turn_list hr (Nat.le_of_lt hj)
  rw [rot_eq h (Nat.le_of_lt hi), rot_eq h (Nat.le_of_lt hj)]
  have q := (valL_lt_iff ((h.drop i).app (h.take i)) ((h.drop j).app (h.take j)) (by simp; lia)).2
  rw [Bool.eq_iff_iff, decide_eq_true_iff, Nat.beq_eq, ← q, ← ti, ← tj]
  exact ⟨fun e => by rw [e], strExt⟩
theorem run_eq {α : Type} {n : Nat} {lt lt' : Nat → Nat → Bool} (h : ∀ i j, i < n → j < n → lt i j = lt' i j) : ∀ t : KasT α, runG n lt t = runF n lt' t
  | .ret a => rfl
  | .ask i j k => by
    unfold runG runF
    by_cases hij : i < n ∧ j < n
    · rw [if_pos hij, if_pos (by simp [Nat.blt_eq, hij.1, hij.2]), h i j hij.1 hij.2]
      exact run_eq h (k _)
    · rw [if_neg hij, if_neg (by simpa [Nat.blt_eq] using hij)]
theorem perm_eq (hr : r.cps.toList = l) (h : Br l) : permR r l.length = permF l.length (valL l) := by
  unfold permR permF
  have e : runG l.length (fun i j => ltv (turnS r i) (some (turnS r j))) (kas_sort l.length) = runF l.length (ltF l.length (valL l)) (kas_sort l.length) := run_eq (fun i j hi hj => lt_eq hr h hi hj) (kas_sort l.length)
  rw [e]
  all_goals (cases runF l.length (ltF l.length (valL l)) (kas_sort l.length) <;> rfl)
theorem ahead_eq (hr : r.cps.toList = l) (h : Br l) {p : Nat} (hp : p < l.length) : aheadN r l.length p = aheadF l.length (valL l) p := by
  unfold aheadN aheadF
  congr 1
  refine List.filter_congr fun o ho => ?_
  have ho := List.mem_range.mp ho
  have a := lt_eq hr h ho hp
  unfold tupLt
  rw [tie_eq hr h ho hp, ← a]
  congr 2
  rw [Bool.eq_iff_iff, decide_eq_true_iff, Nat.blt_eq]
theorem prev_eq (n i : Nat) : prevP n i = prevF n i := by cases i <;> simp [prevP, prevF]
def sg (c : Nat) : Str := ⟨#[c]⟩
theorem last_eq (hr : r.cps.toList = l) {i : Nat} (hi : i < l.length) : lastC (turnS r i) = sg (l.getD (prevF l.length i) 0) := by
  have ti := turn_list hr (Nat.le_of_lt hi)
  have tl : (turnS r i).length = l.length := by
    have : (turnS r i).length = (turnS r i).cps.toList.length := by simp [Str.length]
    rw [this, ti]; simp; lia
  apply strExt
  unfold lastC sg
  rw [tl, ti]
  show (l.drop i ++ l.take i).drop (l.length - 1) = [l.getD (prevF l.length i) 0]
  apply List.ext_getElem?
  intro q
  rw [List.getElem?_drop]
  cases q with
  | zero =>
    rw [List.getD_eq_getElem?_getD]
    cases i with
    | zero =>
      show (l.drop 0 ++ l.take 0)[l.length - 1 + 0]? = some ((l[l.length - 1]?).getD 0)
      rw [List.drop_zero, List.take_zero, List.append_nil, Nat.add_zero, List.getElem?_eq_getElem (by lia)]; rfl
    | succ i =>
      show (l.drop (i + 1) ++ l.take (i + 1))[l.length - 1 + 0]? = some ((l[i]?).getD 0)
      rw [List.getElem?_append_right (by simp; lia), List.length_drop, List.getElem?_take, if_pos (by lia), show l.length - 1 + 0 - (l.length - (i + 1)) = i by lia, List.getElem?_eq_getElem (by lia)]; rfl
  | succ q =>
    rw [List.getElem?_eq_none (by simp; lia)]; rfl
theorem col_eq (hr : r.cps.toList = l) (h : Br l) (low : ∀ i ∈ permF l.length (valL l), i < l.length) : colR r l.length = (colF l (permF l.length (valL l))).map sg := by
  unfold colR colF
  rw [perm_eq hr h, List.map_map]
  exact List.map_congr_left fun i hi => last_eq hr (low i hi)
end
def be (e : Nat × Nat) : Bearer := ⟨sg e.1, e.2⟩
theorem putB_be (c i : Nat) : ∀ bs : List (Nat × Nat), putB ⟨sg c, i⟩ (bs.map be) = (putF c i bs).map be
  | [] => rfl
  | e :: r => by
    have ih := putB_be c i r
    have q : ((sg c).cps.toList < (sg e.1).cps.toList) ↔ Nat.blt c e.1 = true := by
      show ([c] < [e.1]) ↔ _
      rw [List.cons_lt_cons_iff, Nat.blt_eq]
      simp
    show (if (sg c).cps.toList < (sg e.1).cps.toList then _ else _) = List.map be (if Nat.blt c e.1 = true then _ else _)
    by_cases hc : Nat.blt c e.1 = true
    · rw [if_pos (q.mpr hc), if_pos hc]; rfl
    · rw [if_neg (fun z => hc (q.mp z)), if_neg hc, List.map_cons, ← ih]
theorem getD_sg {cl : List Nat} {i : Nat} (hi : i < cl.length) : (cl.map sg).getD i ⟨#[]⟩ = sg (cl.getD i 0) := by
  rw [List.getD_eq_getElem?_getD, List.getD_eq_getElem?_getD, List.getElem?_map, List.getElem?_eq_getElem hi]; rfl
theorem stab_fold (cl : List Nat) : ∀ (is : List Nat) (bs : List (Nat × Nat)), (∀ i ∈ is, i < cl.length) → is.foldl (fun bs i => putB ⟨(cl.map sg).getD i ⟨#[]⟩, i⟩ bs) (bs.map be) = (is.foldl (fun bs i => putF (cl.getD i 0) i bs) bs).map be
  | [], bs, _ => rfl
  | i :: is, bs, h => by
    rw [List.foldl_cons, List.foldl_cons, getD_sg (h i (.head _)), putB_be]
    exact stab_fold cl is _ fun j hj => h j (.tail _ hj)
theorem stab_eq {r : Str} {n : Nat} {cl : List Nat} (hc : colR r n = cl.map sg) (hl : cl.length = n) : (stabR r n).map (·.place) = (stabF cl n).map (·.2) := by
  unfold stabR stabF
  rw [hc]
  have := stab_fold cl (List.range n) [] fun i hi => by rw [hl]; exact List.mem_range.mp hi
  rw [List.map_nil] at this
  rw [this, List.map_map]; rfl
theorem back_go {r : Str} {n : Nat} {cl : List Nat} (hc : colR r n = cl.map sg) (hl : cl.length = n) (low : ∀ i, (backR r n i).1 < n) : ∀ k i, (backR r n (i + k)).2.cps.toList = (backR r n i).2.cps.toList ++ backF cl ((stabF cl n).map (·.2)) k (backR r n i).1
  | 0, i => by simp [backF]
  | k + 1, i => by
    have ih := back_go hc hl low k (i + 1)
    have l1 := low (i + 1)
    have e1 : (backR r n (i + 1)).1 = ((stabF cl n).map (·.2)).getD (backR r n i).1 0 := by rw [← stab_eq hc hl]; rfl
    have e2 : (backR r n (i + 1)).2 = (backR r n i).2 ++ (colR r n).getD (backR r n (i + 1)).1 ⟨#[]⟩ := rfl
    rw [show i + (k + 1) = i + 1 + k by lia, ih, e2, hc, getD_sg (by lia), cps_toList_append, List.append_assoc]
    show _ = _ ++ (cl.getD (((stabF cl n).map (·.2)).getD (backR r n i).1 0) 0 :: backF cl _ k (((stabF cl n).map (·.2)).getD (backR r n i).1 0))
    rw [← e1]; rfl
theorem beqL_eq : ∀ {x y : List Nat}, beqL x y = true → x = y
  | [], [], _ => rfl
  | a :: x, b :: y, h => by
    have h : (Nat.beq a b && beqL x y) = true := h
    rw [Bool.and_eq_true] at h
    rw [Nat.eq_of_beq_eq_true h.1, beqL_eq h.2]
  | [], _ :: _, h => by cases h
  | _ :: _, [], h => by cases h
theorem cntF_eq : ∀ l : List Nat, cntF l = l.count 40
  | [] => rfl
  | c :: r => by
    show (if Nat.beq c 40 = true then Nat.succ (cntF r) else cntF r) = _
    rw [List.count_cons, cntF_eq r]
    by_cases h : c = 40
    · subst h; rfl
    · rw [if_neg (fun q => h (Nat.eq_of_beq_eq_true q)), if_neg (by simpa using h)]; rfl
theorem wide_not (ns : List Int) (cs : List Nat) (h : ns = cs.map fun (c : Nat) => (c : Int)) : (!wide ns) = cs.all fun a => cs.all fun b => Nat.ble a (b + 1) := by
  subst h
  unfold wide
  rw [Bool.eq_iff_iff]
  simp [Nat.ble_eq]
  constructor
  · intro h a ha b hb
    have := h a ha b hb
    lia
  · intro h a ha b hb
    have := h a ha b hb
    lia
theorem spread_eq {r : Str} {l : List Nat} (hr : r.cps.toList = l) : spreadP r = spreadF l := by
  have hl : r.length = l.length := by rw [← hr]; simp [Str.length]
  unfold spreadP spreadF
  rw [hl]
  have q : ∀ k ∈ List.range (l.length - 1), (!wide (cntsP r (1 + k))) = (let cs := (List.range l.length).map fun p => cntF (((l ++ l).drop p).take (1 + k)); cs.all fun a => cs.all fun b => Nat.ble a (b + 1)) := fun k hk => by
    have hk := List.mem_range.mp hk
    refine wide_not _ _ ?_
    unfold cntsP
    rw [hl, List.map_map]
    refine List.map_congr_left fun p hp => ?_
    have hp := List.mem_range.mp hp
    have hl2 : (r ++ r).length = l.length + l.length := by rw [strLen_append, hl]
    rw [show ((p : Int) + ((1 + k : Nat) : Int)) = ((p + (1 + k) : Nat) : Int) by lia, count_cnt, cnt_eq, slice2 (by lia) (by lia), cps_toList_append, hr]
    show _ = ((cntF (((l ++ l).drop p).take (1 + k)) : Nat) : Int)
    rw [cntF_eq, show p + (1 + k) - p = 1 + k by lia]
  rw [Bool.eq_iff_iff, List.all_eq_true, List.all_eq_true]
  exact ⟨fun h k hk => (q k hk) ▸ h k hk, fun h k hk => (q k hk).symm ▸ h k hk⟩
end Mine
set_option maxHeartbeats 4000000
namespace Mine
theorem ring_list (bts : List (Nat × Nat)) : (ringS (bts.map pcS)).cps.toList = bts.map (·.1) := by
  unfold ringS
  rw [join0]
  unfold firsts
  rw [List.map_map, List.map_map]
  induction bts with
  | nil => rfl
  | cons p r ih =>
    rw [List.map_cons, List.flatten_cons, ih]
    show (((pcS p).cps.toList.take 1).toArray.toList ++ _) = _
    rw [pc_eq]; rfl
theorem right_of {bts : List (Nat × Nat)} (hb : ∀ p ∈ bts, Bt p) (h2 : 2 ≤ bts.length) (h8 : bts.length ≤ 8) (h40 : 40 ∈ bts.map (·.1)) (h41 : 41 ∈ bts.map (·.1))
    (ok : okF bts.length (valL (bts.map (·.1))) = true) : RightOk (bts.map pcS) (spreadP (ringS (bts.map pcS))) := by
  have hr := ring_list bts
  obtain ⟨l, el⟩ : ∃ l, l = bts.map (·.1) := ⟨_, rfl⟩
  rw [← el] at hr h40 h41 ok
  obtain ⟨r, er⟩ : ∃ r, r = ringS (bts.map pcS) := ⟨_, rfl⟩
  rw [← er] at hr
  have hn : bts.length = l.length := by rw [el]; simp
  have hps : (bts.map pcS).length = l.length := by rw [← hn]; simp
  have hbr : Br l := fun c hc => by
    rw [el] at hc
    obtain ⟨p, hp, rfl⟩ := List.mem_map.mp hc
    exact (hb p hp).1
  have hmk := mkM_val hbr
  rw [hn] at ok
  unfold okF at ok
  rw [hmk, cntF_eq] at ok
  have c1 : 1 ≤ l.count 40 := List.count_pos_iff.mpr h40
  have c2 : l.count 40 < l.length := by
    refine Nat.lt_of_le_of_ne List.count_le_length fun q => ?_
    have := (List.count_eq_length.mp q) 41 h41
    exact absurd this (by decide)
  have n0 : Nat.beq (l.count 40) 0 = false := by rw [Bool.eq_false_iff]; intro q; have := Nat.eq_of_beq_eq_true q; lia
  have n1 : Nat.beq (l.count 40) l.length = false := by rw [Bool.eq_false_iff]; intro q; have := Nat.eq_of_beq_eq_true q; lia
  rw [n0, n1, Bool.false_or, Bool.false_or] at ok
  obtain ⟨p, ep⟩ : ∃ p, p = permF l.length (valL l) := ⟨_, rfl⟩
  rw [← ep] at ok
  unfold restF at ok
  simp only [Bool.and_eq_true] at ok
  obtain ⟨⟨⟨⟨⟨⟨⟨o1, o2⟩, o3⟩, o4⟩, o5⟩, o6⟩, o7⟩, o8⟩ := ok
  have hperm : permR r l.length = p := by rw [ep]; exact perm_eq hr hbr
  have plen : p.length = l.length := Nat.eq_of_beq_eq_true o1
  have plow : ∀ i ∈ p, i < l.length := fun i hi => by
    have := (List.all_eq_true.mp o2) i hi
    rwa [Nat.blt_eq] at this
  have pz : 0 ∈ p := by
    obtain ⟨i, hi, q⟩ := List.any_eq_true.mp o3
    have := Nat.eq_of_beq_eq_true q
    subst this; exact hi
  have hcol : colR r l.length = (colF l p).map sg := by rw [ep]; exact col_eq hr hbr (ep ▸ plow)
  have hcl : (colF l p).length = l.length := by unfold colF; rw [List.length_map, plen]
  have low := backR_low (r := r) (n := l.length) (by rw [hperm]; exact pz) (by rw [hperm]; exact plen)
  have hback : (backR r l.length l.length).2 = r := by
    apply strExt
    have := back_go hcol hcl low l.length 0
    rw [Nat.zero_add] at this
    rw [this]
    show [] ++ backF _ _ l.length ((permR r l.length).idxOf 0) = _
    rw [hperm, hr, List.nil_append]
    exact beqL_eq o5
  have hopn : opn r = l.count 40 := by unfold opn; rw [hr]
  have pv : ∀ i, i < l.length → prevF l.length i < l.length := fun i hi => by cases i <;> simp [prevF] <;> lia
  have hsent : sentS (bts.map pcS) r = Txt.join ⟨#[]⟩ ((p.map fun i => bts.getD (prevF l.length i) (40, 0)).map pcS) := by
    unfold sentS
    rw [hps, hperm, List.map_map]
    congr 1
    refine List.map_congr_left fun i hi => ?_
    have hi := pv i (plow i hi)
    show (bts.map pcS).getD (prevP l.length i) ⟨#[]⟩ = pcS (bts.getD (prevF l.length i) (40, 0))
    rw [prev_eq, List.getD_eq_getElem?_getD, List.getD_eq_getElem?_getD, List.getElem?_map, List.getElem?_eq_getElem (by lia)]; rfl
  have hfst : (p.map fun i => bts.getD (prevF l.length i) (40, 0)).map (·.1) = colF l p := by
    unfold colF
    rw [List.map_map]
    refine List.map_congr_left fun i hi => ?_
    have hi := pv i (plow i hi)
    show (bts.getD (prevF l.length i) (40, 0)).1 = l.getD (prevF l.length i) 0
    rw [el, List.getD_eq_getElem?_getD, List.getD_eq_getElem?_getD, List.getElem?_map, ← el, List.getElem?_eq_getElem (by lia)]; rfl
  have hbt : ∀ q ∈ p.map (fun i => bts.getD (prevF l.length i) (40, 0)), Bt q := fun q hq => by
    obtain ⟨i, hi, rfl⟩ := List.mem_map.mp hq
    have hi := pv i (plow i hi)
    rw [List.getD_eq_getElem?_getD, List.getElem?_eq_getElem (by lia)]
    exact hb _ (List.getElem_mem _)
  refine ⟨by lia, by lia, fun q hq => ?_, ?_, ?_, ?_, ?_, ?_, ?_, ?_, ?_, ?_, ?_⟩
  · obtain ⟨x, _, rfl⟩ := List.mem_map.mp hq
    unfold pcS
    rw [strLen_append]
    have := b_w x.2
    have e : (⟨#[x.1]⟩ : Str).length = 1 := rfl
    lia
  · rw [← er, hps, hperm, plen]
  · rw [← er, hps, hperm]; exact plow
  · rw [← er, hps, hperm]; exact pz
  · rw [← er, hps, hperm]
    intro q hq
    have a := (List.all_eq_true.mp o4) q (List.mem_range.mpr hq)
    rw [ahead_eq hr hbr hq]
    cases e : p[aheadF l.length (valL l) q]? with
    | none => rw [e] at a; cases a
    | some x => rw [e] at a; rw [Nat.eq_of_beq_eq_true a]
  · rw [← er, hps, hback]
  · rw [← er, hopn]; exact c1
  · rw [← er, hopn, hps]; exact c2
  · rw [← er, hps, hopn, hsent, check_par hbt, hfst]; exact o6
  · rw [← er, hps, hopn, hsent, check_par hbt, hfst]; simpa using o7
  · rw [← er, hps, hopn, hsent, check_par hbt, hfst, spread_eq hr]; simpa using o8
end Mine
set_option maxHeartbeats 4000000
namespace Mine
/-- the sent rings: they end with an opening and a closing bracket -/
theorem tabS0 : ((List.range 1).all fun j => okF 2 (4 * j + 1)) = true := by decide +kernel
theorem tabS1 : ((List.range 2).all fun j => okF 3 (4 * j + 1)) = true := by decide +kernel
theorem tabS2 : ((List.range 4).all fun j => okF 4 (4 * j + 1)) = true := by decide +kernel
theorem tabS3 : ((List.range 8).all fun j => okF 5 (4 * j + 1)) = true := by decide +kernel
theorem tabS4 : ((List.range 16).all fun j => okF 6 (4 * j + 1)) = true := by decide +kernel
theorem tabS5 : ((List.range 32).all fun j => okF 7 (4 * j + 1)) = true := by decide +kernel
theorem tabS6a : ((List.range 16).all fun j => okF 8 (4 * (j + 0) + 1)) = true := by decide +kernel
theorem tabS6b : ((List.range 16).all fun j => okF 8 (4 * (j + 16) + 1)) = true := by decide +kernel
theorem tabS6c : ((List.range 16).all fun j => okF 8 (4 * (j + 32) + 1)) = true := by decide +kernel
theorem tabS6d : ((List.range 16).all fun j => okF 8 (4 * (j + 48) + 1)) = true := by decide +kernel
/-- the even rings -/
def ke3 : List Nat := [1, 2, 3, 4, 5, 6]
theorem tabE3 : (ke3.all fun k => okF 3 k && spreadF (mkM 3 k)) = true := by decide +kernel
def ke4 : List Nat := [1, 2, 4, 5, 7, 8, 10, 11, 13, 14]
theorem tabE4 : (ke4.all fun k => okF 4 k && spreadF (mkM 4 k)) = true := by decide +kernel
def ke5 : List Nat := [1, 2, 4, 5, 8, 9, 10, 11, 13, 15, 16, 18, 20, 21, 22, 23, 26, 27, 29, 30]
theorem tabE5 : (ke5.all fun k => okF 5 k && spreadF (mkM 5 k)) = true := by decide +kernel
def ke6 : List Nat := [1, 2, 4, 8, 9, 16, 18, 21, 27, 31, 32, 36, 42, 45, 47, 54, 55, 59, 61, 62]
theorem tabE6 : (ke6.all fun k => okF 6 k && spreadF (mkM 6 k)) = true := by decide +kernel
def ke7 : List Nat := [1, 2, 4, 8, 9, 16, 17, 18, 21, 32, 34, 36, 37, 41, 42, 43, 45, 53, 55, 59, 63, 64, 68, 72, 74, 82, 84, 85, 86, 90, 91, 93, 95, 106, 109, 110, 111, 118, 119, 123, 125, 126]
theorem tabE7 : (ke7.all fun k => okF 7 k && spreadF (mkM 7 k)) = true := by decide +kernel
def ke8 : List Nat := [1, 2, 4, 8, 16, 17, 32, 34, 37, 41, 64, 68, 73, 74, 82, 85, 91, 107, 109, 119, 127, 128, 136, 146, 148, 164, 170, 173, 181, 182, 187, 191, 214, 218, 221, 223, 238, 239, 247, 251, 253, 254]
theorem tabE8 : (ke8.all fun k => okF 8 k && spreadF (mkM 8 k)) = true := by decide +kernel
end Mine
set_option maxHeartbeats 4000000
namespace Mine
theorem sent_tab {m : Nat} (hm : m ≤ 6) {j : Nat} (hj : j < 2 ^ m) : okF (m + 2) (4 * j + 1) = true := by
  have : m = 0 ∨ m = 1 ∨ m = 2 ∨ m = 3 ∨ m = 4 ∨ m = 5 ∨ m = 6 := by lia
  rcases this with rfl | rfl | rfl | rfl | rfl | rfl | rfl
  · exact List.all_eq_true.mp tabS0 j (List.mem_range.mpr hj)
  · exact List.all_eq_true.mp tabS1 j (List.mem_range.mpr hj)
  · exact List.all_eq_true.mp tabS2 j (List.mem_range.mpr hj)
  · exact List.all_eq_true.mp tabS3 j (List.mem_range.mpr hj)
  · exact List.all_eq_true.mp tabS4 j (List.mem_range.mpr hj)
  · exact List.all_eq_true.mp tabS5 j (List.mem_range.mpr hj)
  · have hj : j < 64 := hj
    by_cases h1 : j < 16
    · exact List.all_eq_true.mp tabS6a j (List.mem_range.mpr h1)
    by_cases h2 : j < 32
    · have := List.all_eq_true.mp tabS6b (j - 16) (List.mem_range.mpr (by lia))
      rwa [show j - 16 + 16 = j by lia] at this
    by_cases h3 : j < 48
    · have := List.all_eq_true.mp tabS6c (j - 32) (List.mem_range.mpr (by lia))
      rwa [show j - 32 + 32 = j by lia] at this
    · have := List.all_eq_true.mp tabS6d (j - 48) (List.mem_range.mpr (by lia))
      rwa [show j - 48 + 48 = j by lia] at this
theorem plain1 {ns : List Int} (h : ns.length ≤ 6) : RightOk (sentP (ns ++ [16, 7])) (spreadP (ringS (sentP (ns ++ [16, 7])))) := by
  rw [sentP_eq (by simp)]
  have e : ((ns ++ [16, 7]).map fun n => pcS (bt n)) = ((ns ++ [16, 7]).map bt).map pcS := by rw [List.map_map]; rfl
  rw [e]
  have el : ((ns ++ [16, 7]).map bt).map (fun p : Nat × Nat => p.1) = (ns.map brkC) ++ [40, 41] := by
    rw [List.map_map, List.map_append]; rfl
  have hx : Br (ns.map brkC) := fun c hc => by
    obtain ⟨n, _, rfl⟩ := List.mem_map.mp hc
    exact (bt_ok n).1
  have hv := valL_lt hx
  rw [List.length_map] at hv
  refine right_of (fun p hp => ?_) (by simp) (by simp; lia) (by rw [el]; simp) (by rw [el]; simp) ?_
  · obtain ⟨n, _, rfl⟩ := List.mem_map.mp hp
    exact bt_ok n
  · have e1 : valL [40, 41] = 1 := rfl
    have e2 : ((ns ++ [16, 7] : List Int).map bt).length = ns.length + 2 := by simp
    have e3 : valL (ns.map brkC) * 2 ^ ([40, 41] : List Nat).length = 4 * valL (ns.map brkC) := Nat.mul_comm _ _
    rw [el, valL_app, e1, e2, e3]
    exact sent_tab h hv
/-- the even ring -/
def evC (sz st q p : Nat) : Nat := if (p * st + q) % sz < st then 40 else 41
def evB (sz st q : Nat) : List Nat := (List.range sz).map (evC sz st q)
def evOk (sz : Nat) (ks : List Nat) : Bool := (List.range sz).all fun st => Nat.beq st 0 || (List.range sz).all fun q => ks.contains (valL (evB sz st q)) && (evB sz st q).contains 40 && (evB sz st q).contains 41
theorem ev3 : evOk 3 ke3 = true := by decide +kernel
theorem ev4 : evOk 4 ke4 = true := by decide +kernel
theorem ev5 : evOk 5 ke5 = true := by decide +kernel
theorem ev6 : evOk 6 ke6 = true := by decide +kernel
theorem ev7 : evOk 7 ke7 = true := by decide +kernel
theorem ev8 : evOk 8 ke8 = true := by decide +kernel
theorem ev_go {sz : Nat} {ks : List Nat} (h1 : evOk sz ks = true) (h2 : (ks.all fun k => okF sz k && spreadF (mkM sz k)) = true) {st q : Nat} (hs : 1 ≤ st) (hs2 : st < sz) (hq : q < sz) :
    (okF sz (valL (evB sz st q)) = true ∧ spreadF (mkM sz (valL (evB sz st q))) = true) ∧ 40 ∈ evB sz st q ∧ 41 ∈ evB sz st q := by
  have a := List.all_eq_true.mp h1 st (List.mem_range.mpr hs2)
  rw [Bool.or_eq_true] at a
  rcases a with a | a
  · have := Nat.eq_of_beq_eq_true a; lia
  have b := List.all_eq_true.mp a q (List.mem_range.mpr hq)
  simp only [Bool.and_eq_true] at b
  obtain ⟨⟨b1, b2⟩, b3⟩ := b
  have c := List.all_eq_true.mp h2 _ (List.contains_iff_mem.mp b1)
  rw [Bool.and_eq_true] at c
  exact ⟨c, List.contains_iff_mem.mp b2, List.contains_iff_mem.mp b3⟩
theorem ev_all {sz st q : Nat} (h3 : 3 ≤ sz) (h8 : sz ≤ 8) (hs : 1 ≤ st) (hs2 : st < sz) (hq : q < sz) : (okF sz (valL (evB sz st q)) = true ∧ spreadF (mkM sz (valL (evB sz st q))) = true) ∧ 40 ∈ evB sz st q ∧ 41 ∈ evB sz st q := by
  have : sz = 3 ∨ sz = 4 ∨ sz = 5 ∨ sz = 6 ∨ sz = 7 ∨ sz = 8 := by lia
  rcases this with rfl | rfl | rfl | rfl | rfl | rfl
  · exact ev_go ev3 tabE3 hs hs2 hq
  · exact ev_go ev4 tabE4 hs hs2 hq
  · exact ev_go ev5 tabE5 hs hs2 hq
  · exact ev_go ev6 tabE6 hs hs2 hq
  · exact ev_go ev7 tabE7 hs hs2 hq
  · exact ev_go ev8 tabE8 hs hs2 hq
theorem plain2 (t : Int) : RightOk (evenL t) true := by
  obtain ⟨z1, z2, z3⟩ := szN_eq t
  obtain ⟨y1, y2, y3⟩ := stN_eq t
  obtain ⟨q, hq⟩ : ∃ q : Nat, (q : Int) = (t.fdiv 36).fmod (szN t : Int) := ⟨((t.fdiv 36).fmod (szN t : Int)).toNat, by have := Int.fmod_nonneg_of_pos (t.fdiv 36) (b := (szN t : Int)) (by lia); lia⟩
  have hq2 : q < szN t := by have := Int.fmod_lt_of_pos (t.fdiv 36) (b := (szN t : Int)) (by lia); lia
  have key : ∀ p : Nat, ((p : Int) * (stN t : Int) + t.fdiv 36).fmod (szN t : Int) = (((p * stN t + q) % szN t : Nat) : Int) := fun p => by
    rw [Int.fmod_eq_emod_of_nonneg _ (by lia)] at hq ⊢
    rw [Int.natCast_emod, Int.natCast_add, Int.natCast_mul, hq, Int.add_emod_emod]
  have e : evenL t = ((List.range (szN t)).map fun p => (evC (szN t) (stN t) q p, 0)).map pcS := by
    unfold evenL
    rw [List.map_map]
    refine List.map_congr_left fun p _ => ?_
    show evenAt t p = pcS (evC (szN t) (stN t) q p, 0)
    unfold evenAt evC
    rw [key]
    by_cases h : (p * stN t + q) % szN t < stN t
    · rw [if_pos (by lia), if_pos h]; rfl
    · rw [if_neg (by lia), if_neg h]; rfl
  have el : ((List.range (szN t)).map fun p => (evC (szN t) (stN t) q p, (0 : Nat))).map (·.1) = evB (szN t) (stN t) q := by
    rw [List.map_map]; rfl
  obtain ⟨⟨a1, a2⟩, a3, a4⟩ := ev_all z2 z3 y2 y3 hq2
  have hl : ((List.range (szN t)).map fun p => (evC (szN t) (stN t) q p, (0 : Nat))).length = szN t := by simp
  have R := right_of (bts := (List.range (szN t)).map fun p => (evC (szN t) (stN t) q p, 0)) (fun x hx => by
    obtain ⟨p, _, rfl⟩ := List.mem_map.mp hx
    refine ⟨?_, show 0 < 6 by decide⟩
    show evC _ _ _ _ = 40 ∨ evC _ _ _ _ = 41
    unfold evC
    split
    · exact .inl rfl
    · exact .inr rfl) (by lia) (by lia) (by rw [el]; exact a3) (by rw [el]; exact a4) (by rw [el, hl]; exact a1)
  rw [← e] at R
  have es : spreadP (ringS (evenL t)) = true := by
    rw [spread_eq (l := evB (szN t) (stN t) q) (by rw [e, ring_list, el])]
    have hbr : Br (evB (szN t) (stN t) q) := fun c hc => by
      obtain ⟨p, _, rfl⟩ := List.mem_map.mp hc
      unfold evC
      split
      · exact .inl rfl
      · exact .inr rfl
    have := mkM_val hbr
    rw [show (evB (szN t) (stN t) q).length = szN t by simp [evB]] at this
    rw [this] at a2
    exact a2
  rw [es] at R
  exact R
theorem plain (ns : List Int) : ∃ ps, sentP (ns.take 6 ++ [16, 7]) = ps ∧ RightOk ps (spreadP (ringS ps)) ∧ RightOk (evenL (ns.take 6).sum) true :=
  ⟨_, rfl, plain1 (List.length_take_le 6 ns), plain2 _⟩
end Mine
open PySem.W.X
set_option maxHeartbeats 8000000
namespace Mine
theorem oldK {w : World} {h h' : Heap} (T : Tp w h) (e : h.get? 91 = some (tabObj #[])) (k : Kp [91] h h') (tb : TabOk h') : OldK h h' := by
  obtain ⟨ps, e', _⟩ := tb
  refine ⟨fun b o eb => ?_, fun b o eb => ?_⟩
  · by_cases hb : b = 91
    · subst hb
      rw [e] at eb; cases eb
      exact .inr (.inl ⟨((code93 T).tab e).isCodeTable, rfl, #[], ps, rfl, by rw [e']; simp⟩)
    · exact .inl (k b o (notMem1 hb) eb)
  · by_cases hb : b = 91
    · subst hb; exact ⟨_, e'⟩
    · exact ⟨o, k b o (notMem1 hb) eb⟩
theorem ok0 {A : Around} (h : A = callerA) : Ok A 8 := by
  subst h
  refine ⟨rfl, ?_, ?_⟩ <;> decide +kernel
end Mine
theorem PySem.Challenge.cw_pk0059_01_holds : PySem.Challenge.rw_pk0059_01.Holds := by
  refine Mine.hd ?_
  k_fill
  intro w s₀ s₁ mg mb G Y fa o pm cd doc dV kV ho hd hcd hD hmg hg args vals as hpre hlay hrd hwl hlo
  have KX := km_in_of Y
  have KT := km_tabs_of Y
  clear hd hcd hD
  have X := (Ground.X G).1
  have V := (Ground.X G).2
  refine Ground.open G ?_
  intro T B D TE TW
  wrow_args hpre hlay hrd hwl hlo
  x_fa T KX hmg
  clear hmg ho
  rename IntsAre _ _ => hI
  rename Heap.IsList _ _ _ => hL
  rename ¬ _ < _ => hlen
  have t91 : s₁.heap.get? 91 = some (tabObj #[]) := KT 91 (by decide)
  have T0 : Mine.Tp w s₁.heap := ⟨KX, ⟨mg, T.g⟩, ⟨mb, T.b, T.builtins⟩, T.nolimit, by
    obtain ⟨bm, ob, e, h1, h2, h3, h4, h5⟩ := T.bmain
    have := mg_of KX T.g (Mine.gl_bi w)
    rw [this] at e; cases e
    exact ⟨ob, h2, h3, h4, h5⟩⟩
  obtain ⟨ps, e1, R1, R2⟩ := Mine.plain _
  refine Mine.law_ok T0 (Mine.ok0 rfl) hL hI ?_ ⟨#[], t91, ?_⟩ ?_ e1 R1 R2 fun h' tk gs k tb b => ?_
  · have := hlen; omega
  · exact trivial
  · rw [hg]; exact AllBare.empty
  · refine ⟨.inl ⟨_, _, [], rfl, fun _ => rfl, ReadsW.bool _, ?_, fun _ => ⟨List.nodup_nil, fun _ hm => (nomatch hm)⟩⟩, Mine.oldK T0 t91 k tb, rfl, b⟩
    wrow_post
