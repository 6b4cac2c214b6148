import PyProof.Rows.All
import Wide.All
import OpenK.AllK
import Wide.FinOn
import PySem.Challenge.RW_mj0082_01
open PySem PySem.W PyProof.Rows
set_option Elab.async false

section
set_option maxRecDepth 100000
set_option maxHeartbeats 8000000
namespace Mine
open_top hd for PySem.Challenge.rw_mj0082_01
end Mine
end

section
set_option linter.unusedVariables false
set_option maxRecDepth 100000
set_option maxHeartbeats 1000000
namespace Mine
noncomputable abbrev PR : Program := PySem.Challenge.rw_mj0082_01.row.prog
noncomputable abbrev KK (w : World) : Frag := hd.heap_39 w.params
/-- what every def needs of the base heap -/
structure TR (mg mb : Str → Option Value) (h : Heap) : Prop where
  g : h.Ns mainGlobals mg
  b : h.Ns builtinsNs mb
  nolimit : h.NoLimit
  builtins : ∀ x : Str, x ≠ "__name__" → mb x = bootBuiltins x
structure Wd (w : World) (mg mb : Str → Option Value) (B : Heap) : Prop where
  X : (KK w).In B
  T : TR mg mb B
  M : ∃ bm ob, BMod B mainGlobals mg bm ob
  n72 : B.get? 72 = none
  C : CodeHd B 76 72
/-- a frame: its locals, the objects that stay -/
structure St (w : World) (mg mb : Str → Option Value) (B : Heap) (S : Addr → Obj → Prop) (l : List (Addr × Obj)) (L : Addr) (m : Str → Option Value) (h : Heap) : Prop where
  W : Wd w mg mb B
  ns : h.Ns L m
  keep : ∀ b o, S b o → h.get? b = some o
  off : ∀ o, ¬ S L o
  sub : ∀ b o, B.get? b = some o → S b o
  mu : ∀ q ∈ l, h.get? q.1 = some q.2
  moff : ∀ q ∈ l, q.1 ≠ L ∧ ∀ o, ¬ S q.1 o
  nd : (l.map (·.1)).Nodup
/-- all but the heap and the tokens -/
def Fro (s s' : Shared) : Prop := ∃ h tk, s' = { s with heap := h, toks := tk }
theorem Fro.refl (s : Shared) : Fro s s := ⟨s.heap, s.toks, rfl⟩
theorem Fro.trans {s s₁ s₂ : Shared} (x : Fro s s₁) (y : Fro s₁ s₂) : Fro s s₂ := let ⟨_, _, e⟩ := x; let ⟨h, tk, f⟩ := y; ⟨h, tk, by rw [f, e]⟩
theorem Fro.fin {s s₁ : Shared} {h : Heap} {tk : Nat} (x : Fro s s₁) : Fro s { s₁ with heap := h, toks := tk } := x.trans ⟨_, _, rfl⟩
theorem Fro.mk' {s : Shared} (h : Heap) (tk : Nat) : Fro s { s with heap := h, toks := tk } := ⟨h, tk, rfl⟩
def upd (m : Str → Option Value) (x : Str) (v : Value) : Str → Option Value := fun y => if y = x then some v else m y
def add1 (S : Addr → Obj → Prop) (a : Addr) (p : Obj) : Addr → Obj → Prop := fun b o => S b o ∨ (b = a ∧ o = p)
structure OkA (A : Around) (n : Nat) : Prop where
  hh : A.handled = none
  d : A.depth + n < recursionLimit
  u : A.units + 8 * n < cLine
theorem OkA.deeper {A : Around} {n : Nat} (h : OkA A (n + 1)) (env : Env) : OkA (A.deeper env) n :=
  ⟨h.hh, by have := h.d; show A.depth + 1 + n < _; omega, by have := h.u; show A.units + 3 + 8 * n < _; omega⟩
theorem OkA.in1 {A : Around} {n : Nat} (h : OkA A (n + 1)) : OkA A.in1 n :=
  ⟨h.hh, by have := h.d; show A.depth + n < _; omega, by have := h.u; show A.units + 1 + 8 * n < _; omega⟩
theorem OkA.le {A : Around} {n k : Nat} (h : OkA A n) (hk : k ≤ n) : OkA A k :=
  ⟨h.hh, by have := h.d; omega, by have := h.u; omega⟩
section
variable {w : World} {mg mb : Str → Option Value} {B : Heap} {S : Addr → Obj → Prop} {l : List (Addr × Obj)} {m : Str → Option Value} {h h' : Heap} {L : Addr}
theorem St.set (t : St w mg mb B S l L m h) {m' : Str → Option Value} (hn : h'.Ns L m') (hs : Heap.SameBut L h h') : St w mg mb B S l L m' h' :=
  ⟨t.W, hn, fun b o e => (hs.2 b (fun q => t.off o (q ▸ e))).trans (t.keep b o e), t.off, t.sub, fun q hq => (hs.2 q.1 (t.moff q hq).1).trans (t.mu q hq), t.moff, t.nd⟩
theorem St.keeps (t : St w mg mb B S l L m h) (hk : ∀ b o, h.get? b = some o → h'.get? b = some o) : St w mg mb B S l L m h' :=
  ⟨t.W, t.ns.keeps hk, fun b o e => hk b o (t.keep b o e), t.off, t.sub, fun q hq => hk _ _ (t.mu q hq), t.moff, t.nd⟩
theorem St.Ldiff (t : St w mg mb B S l L m h) {a : Addr} {p : Obj} (hd : ∀ es n, p.data ≠ .dict es n) (ha : h.get? a = some p) : a ≠ L := fun e => by
  obtain ⟨o, es, ep, h1, h2, _⟩ := t.ns
  rw [e, h1] at ha; cases ha; exact hd _ _ h2
theorem St.push (t : St w mg mb B S l L m h) (p : Obj) (hf : p.isFreed = false := by rfl) : St w mg mb B (add1 S h.objs.size p) l L m (h.push p) :=
  ⟨t.W, t.ns.keeps (fun _ _ e => Heap.get?_push_of_some _ e),
   fun b o e => by
     rcases e with e | ⟨rfl, rfl⟩
     · exact Heap.get?_push_of_some _ (t.keep b o e)
     · exact Heap.get?_push_size _ hf,
   fun o e => by
     rcases e with e | ⟨e, _⟩
     · exact t.off o e
     · exact absurd t.ns.lt (e ▸ Nat.lt_irrefl _),
   fun b o e => .inl (t.sub b o e), fun q hq => Heap.get?_push_of_some _ (t.mu q hq),
   fun q hq => ⟨(t.moff q hq).1, fun o e => by
     rcases e with e | ⟨e, _⟩
     · exact (t.moff q hq).2 o e
     · exact absurd (Heap.lt_size (t.mu q hq)) (e ▸ Nat.lt_irrefl _)⟩, t.nd⟩
/-- a new object that will be changed later -/
theorem St.pushM (t : St w mg mb B S l L m h) (p : Obj) (hf : p.isFreed = false := by rfl) : St w mg mb B S ((h.objs.size, p) :: l) L m (h.push p) :=
  ⟨t.W, t.ns.keeps (fun _ _ e => Heap.get?_push_of_some _ e), fun b o e => Heap.get?_push_of_some _ (t.keep b o e), t.off, t.sub,
   fun q hq => by
     rcases List.mem_cons.1 hq with rfl | hq
     · exact Heap.get?_push_size _ hf
     · exact Heap.get?_push_of_some _ (t.mu q hq),
   fun q hq => by
     rcases List.mem_cons.1 hq with rfl | hq
     · exact ⟨fun e => absurd t.ns.lt (e ▸ Nat.lt_irrefl _), fun o e => absurd (Heap.lt_size (t.keep _ o e)) (Nat.lt_irrefl _)⟩
     · exact t.moff q hq,
   List.nodup_cons.2 ⟨fun hm => by
     obtain ⟨q, hq, e⟩ := List.mem_map.1 hm
     exact absurd (Heap.lt_size (t.mu q hq)) (e ▸ Nat.lt_irrefl _), t.nd⟩⟩
theorem St.pop {a : Addr} {p : Obj} (t : St w mg mb B S ((a, p) :: l) L m h) : St w mg mb B S l L m h :=
  ⟨t.W, t.ns, t.keep, t.off, t.sub, fun q hq => t.mu q (List.mem_cons_of_mem _ hq), fun q hq => t.moff q (List.mem_cons_of_mem _ hq), (List.nodup_cons.1 t.nd).2⟩
theorem St.freeze {a : Addr} {p : Obj} (t : St w mg mb B S ((a, p) :: l) L m h) : St w mg mb B (add1 S a p) l L m h :=
  ⟨t.W, t.ns, fun b o e => by
     rcases e with e | ⟨rfl, rfl⟩
     · exact t.keep b o e
     · exact t.mu _ (List.mem_cons_self ..),
   fun o e => by
     rcases e with e | ⟨e, _⟩
     · exact t.off o e
     · exact (t.moff _ (List.mem_cons_self ..)).1 e.symm,
   fun b o e => .inl (t.sub b o e), fun q hq => t.mu q (List.mem_cons_of_mem _ hq),
   fun q hq => ⟨(t.moff q (List.mem_cons_of_mem _ hq)).1, fun o e => by
     rcases e with e | ⟨e, _⟩
     · exact (t.moff q (List.mem_cons_of_mem _ hq)).2 o e
     · exact (List.nodup_cons.1 t.nd).1 (List.mem_map.2 ⟨q, hq, e⟩)⟩, (List.nodup_cons.1 t.nd).2⟩
theorem St.swap2 {x y : Addr × Obj} (t : St w mg mb B S (x :: y :: l) L m h) : St w mg mb B S (y :: x :: l) L m h := by
  have hm : ∀ q, q ∈ y :: x :: l → q ∈ x :: y :: l := fun q hq => by simp only [List.mem_cons] at hq ⊢; rcases hq with a | a | a <;> simp [a]
  refine ⟨t.W, t.ns, t.keep, t.off, t.sub, fun q hq => t.mu q (hm q hq), fun q hq => t.moff q (hm q hq), ?_⟩
  have := t.nd
  simp only [List.map_cons, List.nodup_cons, List.mem_cons, not_or] at this ⊢
  exact ⟨⟨fun e => this.1.1 e.symm, this.2.1⟩, this.1.2, this.2.2⟩
theorem St.mut0 {a : Addr} {p p' : Obj} (t : St w mg mb B S ((a, p) :: l) L m h) (hp : h'.get? a = some p') (hs : Heap.ExtBut a h h') : St w mg mb B S ((a, p') :: l) L m h' := by
  have ha := t.moff _ (List.mem_cons_self ..)
  refine ⟨t.W, t.ns.extBut hs (fun e => ha.1 e.symm), fun b o e => hs b o (fun q => ha.2 o (q ▸ e)) (t.keep b o e), t.off, t.sub, fun q hq => ?_, fun q hq => ?_, t.nd⟩
  · rcases List.mem_cons.1 hq with rfl | hq
    · exact hp
    · exact hs _ _ (fun e => (List.nodup_cons.1 t.nd).1 (List.mem_map.2 ⟨q, hq, e⟩)) (t.mu q (List.mem_cons_of_mem _ hq))
  · rcases List.mem_cons.1 hq with rfl | hq
    · exact ha
    · exact t.moff q (List.mem_cons_of_mem _ hq)
theorem St.mut1 {a : Addr} {p p' : Obj} {x : Addr × Obj} (t : St w mg mb B S (x :: (a, p) :: l) L m h) (hp : h'.get? a = some p') (hs : Heap.ExtBut a h h') : St w mg mb B S (x :: (a, p') :: l) L m h' :=
  (t.swap2.mut0 hp hs).swap2
theorem St.at0 {a : Addr} {p : Obj} (t : St w mg mb B S ((a, p) :: l) L m h) : h.get? a = some p := t.mu _ (List.mem_cons_self ..)
theorem St.at1 {a : Addr} {p : Obj} {x : Addr × Obj} (t : St w mg mb B S (x :: (a, p) :: l) L m h) : h.get? a = some p := t.mu (a, p) (List.mem_cons_of_mem _ (List.mem_cons_self ..))
/-- take more into what stays, or leave some of it out -/
theorem St.grow {S' : Addr → Obj → Prop} (t : St w mg mb B S l L m h) (h1 : ∀ b o, S b o → S' b o) (h2 : ∀ b o, S' b o → S b o ∨ (b ≠ L ∧ h.get? b = some o ∧ ∀ q ∈ l, q.1 ≠ b)) : St w mg mb B S' l L m h :=
  ⟨t.W, t.ns, fun b o e => (h2 b o e).elim (t.keep b o) (·.2.1), fun o e => (h2 L o e).elim (t.off o) (·.1 rfl), fun b o e => h1 b o (t.sub b o e), t.mu,
   fun q hq => ⟨(t.moff q hq).1, fun o e => (h2 _ o e).elim ((t.moff q hq).2 o) (fun x => x.2.2 q hq rfl)⟩, t.nd⟩
theorem St.pushN (t : St w mg mb B S l L m h) (p : Obj) : St w mg mb B S l L m (h.push p) := t.keeps fun _ _ e => Heap.get?_push_of_some _ e
theorem St.K (t : St w mg mb B S l L m h) : (KK w).In h := t.W.X.keeps fun b o e => t.keep b o (t.sub b o e)
end
section
variable {w : World} {mg mb : Str → Option Value} {B : Heap} {S : Addr → Obj → Prop} {l : List (Addr × Obj)} {m : Str → Option Value} {env : Env} {M : Model} {A : Around} {E : Value → Shared → Prop} {s : Shared}
theorem eLoc {x : Str} {pos : Pos} {v : Value} {Q : Value → Shared → Prop} (t : St w mg mb B S l env.locals m s.heap) (hv : m x = some v) (h : Q v s)
    (hk : env.scope.kind = .function := by rfl) (hl : env.kindOf x = some .local := by rfl) (hd : (x == ("__debug__" : Str)) = false := by decide) :
    wpAny M A (eval (.Name x pos) env) Q E s := wpAny_Name (wpAny_loadName_local hk hl t.ns hv h) hd
theorem eGlob {x : Str} {pos : Pos} {v : Value} {Q : Value → Shared → Prop} (t : St w mg mb B S l env.locals m s.heap) (e : nsIn (KK w) mainGlobals x = some (some v)) (h : Q v s)
    (hg : env.globals = mainGlobals := by rfl) (hk : env.scope.kind = .function := by rfl) (hl : env.kindOf x = some .globalImplicit := by rfl) (hd : (x == ("__debug__" : Str)) = false := by decide) :
    wpAny M A (eval (.Name x pos) env) Q E s :=
  Calls.Name_function_global hk hl (Calls.loadGlobal_global (mg := mg) (by rw [hg]; exact t.W.T.g.keeps fun b o e => t.keep b o (t.sub b o e)) (mg_of t.W.X t.W.T.g e) h) hd
theorem eBlt {x : Str} {pos : Pos} {v : Value} {Q : Value → Shared → Prop} (t : St w mg mb B S l env.locals m s.heap) (e : nsIn (KK w) mainGlobals x = some none) (hv : bootBuiltins x = some v) (hn : x ≠ "__name__") (h : Q v s)
    (hg : env.globals = mainGlobals := by rfl) (hb : env.builtins = builtinsNs := by rfl) (hk : env.scope.kind = .function := by rfl) (hl : env.kindOf x = some .globalImplicit := by rfl) (hd : (x == ("__debug__" : Str)) = false := by decide) :
    wpAny M A (eval (.Name x pos) env) Q E s :=
  Calls.Name_function_global hk hl (Calls.loadGlobal_builtin (mg := mg) (mb := mb) (by rw [hg]; exact t.W.T.g.keeps fun b o e => t.keep b o (t.sub b o e)) (mg_none_of t.W.X t.W.T.g e)
    (by rw [hb]; exact t.W.T.b.keeps fun b o e => t.keep b o (t.sub b o e)) ((t.W.T.builtins x hn).trans hv) h) hd
theorem sLoc {x : Str} {v : Value} {Q : Unit → Shared → Prop} (t : St w mg mb B S l env.locals m s.heap)
    (h : ∀ s', Fro s s' → St w mg mb B S l env.locals (upd m x v) s'.heap → Q () s')
    (hk : env.scope.kind = .function := by rfl) (hl : env.kindOf x = some .local := by rfl) :
    wpAny M A (storeName env x v) Q E s :=
  wpAny_storeName_local hl t.ns (fun h' hn hs => h _ (Fro.mk' _ _) (t.set hn hs)) (by rw [hk]; rfl)
/-- x = e -/
theorem aName {x : Str} {p' pos : Pos} {value : Expr} {Q : Flow → Shared → Prop} (W : Wd w mg mb B)
    (h : wpAny M A (eval value env) (fun v s₁ => ∃ S' l' m', St w mg mb B S' l' env.locals m' s₁.heap ∧ ∀ s', Fro s₁ s' → St w mg mb B S' l' env.locals (upd m' x v) s'.heap → Q .next s') E s)
    (hk : env.scope.kind = .function := by rfl) (hl : env.kindOf x = some .local := by rfl) (hs : swapsWith value (some (.Name x p')) pos.line env = pure false := by rfl) :
    wpAny M A (exec (.Assign [.Name x p'] value pos) env) Q E s :=
  wpAny_Assign_Name (wpAny_mono h (fun v s₁ ⟨S', l', m', t, k⟩ => sLoc t k hk hl) fun _ _ e => e) hs
end
/-- what is kept of the heap -/
abbrev Kp (h h' : Heap) : Prop := ∀ b o, h.get? b = some o → h'.get? b = some o
def flv : Flow → Value
  | .ret v => v
  | _ => .none
theorem callK {w : World} {mg mb : Str → Option Value} {B : Heap} {A : Around} {E : Value → Shared → Prop} {s : Shared} {n : Nat} {f : Addr} {o : Obj} {fd : FuncData} {body : List Stmt} {args : List Value} {binds : List (Str × Value)} {Q : Value → Shared → Prop}
    (hA : OkA A (n + 1)) (W : Wd w mg mb B) (hB : Kp B s.heap)
    (ho : (KK w).lookup f = some o) (hd : o.data = .func fd) (hcd : codeIn (KK w) fd.code fd.qualname = true) (hbody : fd.body = .stmts body) (hbind : BindsTo s fd ⟨args, []⟩ binds)
    (hcell : ∀ x ∈ fd.scope.names, x.2 ≠ .cell) (hloc : ∀ x ∈ binds, fd.scope.names.lookup x.1 = some .local)
    (h : ∀ s₁, Fro s s₁ → St w mg mb B (fun b o => s.heap.get? b = some o) [] s.heap.objs.size (fun x => binds.reverse.lookup x) s₁.heap → OkA (A.deeper (callEnv fd s.heap.objs.size f)) n →
      wpAny (model PR w) (A.deeper (callEnv fd s.heap.objs.size f)) (execs body (callEnv fd s.heap.objs.size f)) (fun fl s' => Q (flv fl) s') (fun _ _ => False) s₁)
    (hco : fd.scope.isCoroutine = false := by rfl) (hgen : fd.scope.isGenerator = false := by rfl) (hk : fd.scope.kind = .function := by rfl) :
    wpAny (model PR w) A (call (.ref f) args) Q E s := by
  have XK : (KK w).In s.heap := W.X.keeps hB
  refine wpAny_call ?_
  refine codeAny_call_def (by have := hA.d; omega) (XK _ _ ho) hd (W.T.nolimit.keeps hB) (codeRec_of XK hcd) hbody hbind hcell hloc (fun h₁ hns hk₁ => ?_) hco hgen hk
  refine wpAny_mono (h { s with heap := h₁, toks := s.toks + binds.length } (Fro.mk' _ _) ⟨W, hns, fun b o e => hk₁ b o e, fun o e => absurd (Heap.lt_size e) (Nat.lt_irrefl _), fun b o e => hB b o e, fun _ hq => absurd hq (List.not_mem_nil), fun _ hq => absurd hq (List.not_mem_nil), List.nodup_nil⟩ (hA.deeper _)) (fun fl s' q => ?_) (fun _ _ x => x.elim)
  cases fl <;> exact q
end Mine
end

section
set_option linter.unusedVariables false
set_option maxRecDepth 100000
set_option maxHeartbeats 1000000
namespace Mine
theorem strEqB (x y : Str) : (x.cps.toList == y.cps.toList) = decide (x = y) := by
  by_cases e : x = y
  · subst e; simp
  · rw [decide_eq_false e]
    apply Bool.eq_false_iff.2
    intro q
    apply e
    have : x.cps.toList = y.cps.toList := by simpa using q
    cases x; cases y
    congr 1
    exact Array.toList_inj.1 this
theorem strB (x y : Str) : (x == y) = decide (x = y) := rfl
variable {w : World} {mg mb : Str → Option Value} {B : Heap} {A : Around} {E : Value → Shared → Prop} {s : Shared}
theorem c_uab {x : Str} {u : Tok} {Q : Value → Shared → Prop} (hA : OkA A 2) (W : Wd w mg mb B) (hB : Kp B s.heap)
    (k : ∀ t s', Fro s s' → Kp s.heap s'.heap → Q (.str (if x = "unknown" then "" else x) t) s') :
    wpAny (model PR w) A (call (.ref 84) [.str x u]) Q E s := by
  refine callK (n := 1) hA W hB (by rfl) (by rfl) (by rfl) (by rfl) (BindsTo.of_eq rfl) (by decide) (locs rfl) ?_
  intro s₁ f₁ st hA
  refine wpAny_execs_cons (wpAny_Return_some (wpAny_IfExp (wpAny_isTrue_Compare1 (eLoc st rfl (wpAny_Constant_str (eq_str (wpAny_truthy_bool ?_)))))))
  have fin : ∀ t tk, Q (.str (if x = "unknown" then "" else x) t) { s₁ with toks := tk } := fun t tk => k t _ (f₁.trans (Fro.mk' _ _)) st.keep
  rw [strB]
  by_cases e : x = "unknown"
  · rw [decide_eq_true e]
    refine wpAny_Constant_str ?_
    have := fin (s₁.toks + 1) (s₁.toks + 1 + 1)
    rw [if_pos e] at this; exact this
  · rw [decide_eq_false e]
    refine eLoc st rfl ?_
    have := fin u (s₁.toks + 1)
    rw [if_neg e] at this; exact this
theorem c_gfn {a : Addr} {x y z : Value} {Q : Value → Shared → Prop} (hA : OkA A 2) (W : Wd w mg mb B) (hB : Kp B s.heap) (ht : IsTup s.heap a #[x, y, z])
    (k : ∀ s', Fro s s' → Kp s.heap s'.heap → Q z s') :
    wpAny (model PR w) A (call (.ref 56) [.ref a]) Q E s := by
  refine callK (n := 1) hA W hB (by rfl) (by rfl) (by rfl) (by rfl) (BindsTo.of_eq rfl) (by decide) (locs rfl) ?_
  intro s₁ f₁ st hA
  refine wpAny_execs_cons (wpAny_Return_some (Subscript_ (eLoc st rfl (wpAny_Constant_int (item_tupleT (l := [x, y, z]) (ht.keeps st.keep) (by decide) (by decide) (by rfl) (by rfl) ?_)))))
  exact k _ (f₁.trans (Fro.mk' _ _)) st.keep
end Mine
end

section
set_option linter.unusedVariables false
set_option maxRecDepth 100000
set_option maxHeartbeats 1000000
namespace Mine
variable {w : World} {mg mb : Str → Option Value} {B : Heap} {A : Around} {E : Value → Shared → Prop} {s : Shared} {S : Addr → Obj → Prop} {l : List (Addr × Obj)} {m : Str → Option Value} {env : Env} {M : Model}
theorem St.base {L : Addr} {h : Heap} (t : St w mg mb B S l L m h) : Kp B h := fun b o e => t.keep b o (t.sub b o e)
/-- a call of one of the program's defs by its name -/
theorem cDef {x : Str} {p pos : Pos} {e : Expr} {rest : List Expr} {f : Addr} {o : Obj} {fd : FuncData} {Q : Value → Shared → Prop} (t : St w mg mb B S l env.locals m s.heap)
    (hx : nsIn (KK w) mainGlobals x = some (some (.ref f))) (ho : (KK w).lookup f = some o) (hd : o.data = .func fd)
    (h : wpAny M A (spliced (backTo pos (starEach (e :: rest) env))) (fun vs s₁ => Kp B s₁.heap ∧ wpAny M A (call (.ref f) vs) Q E s₁) E s)
    (hg : env.globals = mainGlobals := by rfl) (hk : env.scope.kind = .function := by rfl) (hl : env.kindOf x = some .globalImplicit := by rfl) (hdb : (x == ("__debug__" : Str)) = false := by decide)
    (he : starEach (e :: rest) env = (false, eval e env) :: starEach rest env := by rfl)
    (hc : eval (.Call (.Name x p) (e :: rest) [] pos) env = (do callWith pos (← eval (.Name x p) env) [] (backTo pos (starEach (e :: rest) env)) (backToKw pos (keywordEach [] env))) := by rfl) :
    wpAny M A (eval (.Call (.Name x p) (e :: rest) [] pos) env) Q E s :=
  Call_ (eGlob t hx (callWith_def hd (wpAny_mono h (fun vs s₁ q => ⟨t.W.X.keeps q.1 _ _ ho, q.2⟩) fun _ _ x => x) he) hg hk hl hdb) hc
theorem typeBeq (a b : String) : (Value.type a == Value.type b) = decide (a = b) := by
  by_cases e : a = b
  · subst e; simp
  · rw [decide_eq_false e]; exact beq_eq_false_iff_ne.2 (fun q => e (by injection q))
theorem is_type {a b : String} {Q : Value → Shared → Prop} (h : Q (.bool (decide (a = b))) s) : wpAny M A (compareOp .Is (.type a) (.type b)) Q E s := by
  show wpAny M A (do return .bool (← isSame (.type a) (.type b))) Q E s
  exact wpAny_bind (wpAny_pure (wpAny_pure (by rw [typeBeq]; exact h)))
theorem c_kind {n x : Str} {u v : Tok} {Q : Value → Shared → Prop} (hA : OkA A 2) (W : Wd w mg mb B) (hB : Kp B s.heap)
    (k : ∀ t s', Fro s s' → Kp s.heap s'.heap → Q (.str "" t) s') :
    wpAny (model PR w) A (call (.ref 28) [.str n v, .str x u]) Q E s := by
  refine callK (n := 1) hA W hB (by rfl) (by rfl) (by rfl) (by rfl) (BindsTo.of_eq rfl) (by decide) (locs rfl) ?_
  intro s₁ f₁ st hA
  refine wpAny_execs_cons (aName W (Call_ (eBlt st (by rfl) (by rfl) (by decide) (PyProof.Rows.callWith_type1 (args_cons (eLoc st rfl (args_nil (call_type_of (typeIs_str _ _ _) (by decide) ?_))))))))
  refine ⟨_, _, _, st, fun s₂ f₂ st₂ => ?_⟩
  refine wpAny_execs_cons (wpAny_If (wpAny_isTrue_Compare1 (eLoc st₂ rfl (eBlt st₂ (by rfl) (by rfl) (by decide) (is_type (wpAny_truthy_bool ?_))))))
  refine wpAny_execs_cons (wpAny_Return_some (wpAny_Constant_str ?_))
  exact k _ _ (f₁.trans (f₂.trans (Fro.mk' _ _))) st₂.keep
theorem c_fspath {n x : Str} {u v : Tok} {Q : Value → Shared → Prop} (hA : OkA A 3) (W : Wd w mg mb B) (hB : Kp B s.heap)
    (k : ∀ s', Fro s s' → Kp s.heap s'.heap → Q (.str x u) s') :
    wpAny (model PR w) A (call (.ref 35) [.str n v, .str x u]) Q E s := by
  refine callK (n := 2) hA W hB (by rfl) (by rfl) (by rfl) (by rfl) (BindsTo.of_eq rfl) (by decide) (locs rfl) ?_
  intro s₁ f₁ st hA
  refine wpAny_execs_cons (aName W (cDef st (by rfl) (by rfl) (by rfl) (args_cons (eLoc st rfl (args_cons (eLoc st rfl (args_nil ⟨st.base, ?_⟩)))))))
  refine c_kind hA W st.base fun t s₂ f₂ k₂ => ?_
  refine ⟨_, _, _, st.keeps k₂, fun s₃ f₃ st₃ => ?_⟩
  refine wpAny_execs_cons (wpAny_If (wpAny_isTrue_value (eLoc st₃ rfl (P.truthy_str (by decide) ?_))))
  refine wpAny_execs_nil ?_
  refine wpAny_execs_cons (wpAny_Return_some (eLoc st₃ rfl ?_))
  exact k _ (f₁.trans (f₂.trans f₃.fin)) st₃.keep
def TupS (S : Addr → Obj → Prop) (a : Addr) (items : List Value) : Prop := ∃ o, S a o ∧ o.cls = .type "tuple" ∧ ∃ n, o.data = .seq items.toArray n
def ListS (S : Addr → Obj → Prop) (a : Addr) (items : List Value) : Prop := ∃ o, S a o ∧ o.cls = .type "list" ∧ ∃ n, o.data = .seq items.toArray n
theorem TupS.at {L : Addr} {h : Heap} {a : Addr} {y : List Value} (x : TupS S a y) (t : St w mg mb B S l L m h) : IsTup h a y.toArray := let ⟨o, e, r⟩ := x; ⟨o, t.keep _ _ e, r⟩
theorem ListS.at {L : Addr} {h : Heap} {a : Addr} {y : List Value} (x : ListS S a y) (t : St w mg mb B S l L m h) : h.IsList a y.toArray := let ⟨o, e, r, n, d⟩ := x; ⟨o, t.keep _ _ e, r, n, d⟩
theorem TupS.mono {S' : Addr → Obj → Prop} {a : Addr} {y : List Value} (x : TupS S a y) (h : ∀ b o, S b o → S' b o) : TupS S' a y := let ⟨o, e, r⟩ := x; ⟨o, h _ _ e, r⟩
theorem ListS.mono {S' : Addr → Obj → Prop} {a : Addr} {y : List Value} (x : ListS S a y) (h : ∀ b o, S b o → S' b o) : ListS S' a y := let ⟨o, e, r⟩ := x; ⟨o, h _ _ e, r⟩
theorem add1.up {a : Addr} {p : Obj} (b : Addr) (o : Obj) (e : S b o) : add1 S a p b o := .inl e
theorem add1.new {a : Addr} {p : Obj} : add1 S a p a p := .inr ⟨rfl, rfl⟩
theorem mkTup {L : Addr} {vs : List Value} {Q : Value → Shared → Prop} (t : St w mg mb B S l L m s.heap)
    (h : ∀ a s', Fro s s' → St w mg mb B (add1 S a { cls := .type "tuple", data := .seq vs.toArray }) l L m s'.heap → TupS (add1 S a { cls := .type "tuple", data := .seq vs.toArray }) a vs → Kp s.heap s'.heap → Q (.ref a) s')
    (hsz : vs.length ≤ sizeLine := by simp [sizeLine]) : wpAny M A (newTuple vs) Q E s :=
  wpAny_newObj_type (h _ _ ⟨_, _, rfl⟩ (t.push _) ⟨_, add1.new, rfl, _, rfl⟩ fun _ _ e => Heap.get?_push_of_some _ e) (by show vs.toArray.size ≤ sizeLine; rw [List.size_toArray]; exact hsz)
theorem mkList {L : Addr} {vs : List Value} {Q : Value → Shared → Prop} (t : St w mg mb B S l L m s.heap)
    (h : ∀ a s', Fro s s' → St w mg mb B (add1 S a { cls := .type "list", data := .seq vs.toArray }) l L m s'.heap → ListS (add1 S a { cls := .type "list", data := .seq vs.toArray }) a vs → Kp s.heap s'.heap → Q (.ref a) s')
    (hsz : vs.length ≤ sizeLine := by simp [sizeLine]) : wpAny M A (newList vs) Q E s :=
  wpAny_newObj_type (h _ _ ⟨_, _, rfl⟩ (t.push _) ⟨_, add1.new, rfl, _, rfl⟩ fun _ _ e => Heap.get?_push_of_some _ e) (by show vs.toArray.size ≤ sizeLine; rw [List.size_toArray]; exact hsz)
theorem kptSt {L : Addr} : KeptH (St w mg mb B S l L m) := fun _ p t => t.pushN p
/-- x[i:] of a str -/
theorem slStr_sn {L : Addr} {value slice : Expr} {x : Str} {t : Tok} {i : Int} {ui : Tok} {Q : Value → Shared → Prop} (st : St w mg mb B S l L m s.heap)
    (h : ∀ t' s', Fro s s' → St w mg mb B S l L m s'.heap → Q (.str (Txt.slice x (some i) none) t') s') (hsz : x.length ≤ sizeLine)
    (hs : subscripted slice false (.str x t) (.ref s.heap.objs.size) = operate [.ref s.heap.objs.size, .str x t] (getItem (.str x t) (.ref s.heap.objs.size)) := by with_unfolding_all rfl)
    (ht : ∀ r, letTemporaryGo value (.str x t) r = pure () := by intro _; with_unfolding_all rfl) :
    wpAny (model PR w) A (subscriptTail value slice (.str x t) (.ref s.heap.objs.size)) Q E { s with heap := s.heap.push { cls := .type "slice", data := .fields #[.int i ui, .none, .none] } } :=
  tail_of_ItemOn (SBH.sliceItem_sn kptSt st (fun h' t' k st' => h _ _ (Fro.mk' _ _) st') hsz) hs ht
theorem slStr_ns {L : Addr} {value slice : Expr} {x : Str} {t : Tok} {i : Int} {ui : Tok} {Q : Value → Shared → Prop} (st : St w mg mb B S l L m s.heap)
    (h : ∀ t' s', Fro s s' → St w mg mb B S l L m s'.heap → Q (.str (Txt.slice x none (some i)) t') s') (hsz : x.length ≤ sizeLine)
    (hs : subscripted slice false (.str x t) (.ref s.heap.objs.size) = operate [.ref s.heap.objs.size, .str x t] (getItem (.str x t) (.ref s.heap.objs.size)) := by with_unfolding_all rfl)
    (ht : ∀ r, letTemporaryGo value (.str x t) r = pure () := by intro _; with_unfolding_all rfl) :
    wpAny (model PR w) A (subscriptTail value slice (.str x t) (.ref s.heap.objs.size)) Q E { s with heap := s.heap.push { cls := .type "slice", data := .fields #[.none, .int i ui, .none] } } :=
  tail_of_ItemOn (SBH.sliceItem_ns kptSt st (fun h' t' k st' => h _ _ (Fro.mk' _ _) st') hsz) hs ht
def baseOf (x : Str) : Str := Txt.slice x (some (Txt.rfind x "/" + 1)) none
theorem c_base {x : Str} {u : Tok} {Q : Value → Shared → Prop} (hA : OkA A 4) (W : Wd w mg mb B) (hB : Kp B s.heap) (hx : x.length ≤ sizeLine)
    (k : ∀ t s', Fro s s' → Kp s.heap s'.heap → Q (.str (baseOf x) t) s') :
    wpAny (model PR w) A (call (.ref 42) [.str x u]) Q E s := by
  refine callK (n := 3) hA W hB (by rfl) (by rfl) (by rfl) (by rfl) (BindsTo.of_eq rfl) (by decide) (locs rfl) ?_
  intro s₁ f₁ st hA
  refine wpAny_execs_cons (aName W (cDef st (by rfl) (by rfl) (by rfl) (args_cons (wpAny_Constant_str (args_cons (eLoc st rfl (args_nil ⟨st.base, ?_⟩)))))))
  refine c_fspath hA W st.base fun s₂ f₂ k₂ => ?_
  refine ⟨_, _, _, st.keeps k₂, fun s₃ f₃ st₃ => ?_⟩
  refine wpAny_execs_cons (aName W (wpAny_BinOp (Call_method1 (by rfl) (by rfl) (by rfl) (eLoc st₃ rfl (SB.rfind (wpAny_Constant_str ⟨_, _, rfl, wpAny_Constant_int (P.add_int ?_)⟩))))))
  refine ⟨_, _, _, st₃, fun s₄ f₄ st₄ => ?_⟩
  refine wpAny_execs_cons (wpAny_Return_some (Subscript_ (eLoc st₄ rfl (wpAny_Slice (eLoc st₄ rfl (wpAny_pure (wpAny_pure (slStr_sn st₄ (fun t s₅ f₅ st₅ => ?_) hx))))))))
  exact k _ _ (f₁.trans (f₂.trans (f₃.trans (f₄.trans f₅)))) st₅.keep
end Mine
end

section
set_option linter.unusedVariables false
set_option maxRecDepth 100000
set_option maxHeartbeats 1000000
namespace Mine
variable {w : World} {mg mb : Str → Option Value} {B : Heap} {A : Around} {E : Value → Shared → Prop} {s : Shared} {S : Addr → Obj → Prop} {l : List (Addr × Obj)} {m : Str → Option Value} {env : Env} {M : Model}
theorem kpExt {h h' : Heap} (e : Heap.ExtBut h.objs.size h h') : Kp h h' := fun b o x => e b o (fun q => absurd (Heap.lt_size x) (q ▸ Nat.lt_irrefl _)) x
/-- the targets a, b, c.. take a tuple's items -/
theorem unp {elts : List Expr} {k} {pos : Pos} {a : Addr} {items : Array Value} {Q : Unit → Shared → Prop} (hA : A.handled = none) (t : St w mg mb B S l env.locals m s.heap) (ht : IsTup s.heap a items)
    (hn : (assignEach elts env).length = items.size) (hstar : (assignEach elts env).findIdx? (·.1) = none)
    (h : ∀ s', Fro s s' → St w mg mb B S l env.locals m s'.heap → wpAny (model PR w) A (assignInOrder ((assignEach elts env).map (·.2)) items.toList) Q E s') :
    wpAny (model PR w) A (assign (.Tuple elts k pos) env (.ref a)) Q E s :=
  assign_Tuple_tuple hA ht hn hstar fun h' he => h _ ⟨_, _, rfl⟩ (t.keeps (kpExt he))
theorem c_strip {a : Addr} {x : Str} {u : Tok} {y z : Value} {Q : Value → Shared → Prop} (hA : OkA A 5) (W : Wd w mg mb B) (hB : Kp B s.heap) (hx : x.length ≤ sizeLine) (ht : IsTup s.heap a #[.str x u, y, z])
    (k : ∀ b t s', Fro s s' → Kp s.heap s'.heap → IsTup s'.heap b #[.str (baseOf x) t, y, z] → Q (.ref b) s') :
    wpAny (model PR w) A (call (.ref 49) [.ref a]) Q E s := by
  refine callK (n := 4) hA W hB (by rfl) (by rfl) (by rfl) (by rfl) (BindsTo.of_eq rfl) (by decide) (locs rfl) ?_
  intro s₁ f₁ st hA
  refine wpAny_execs_cons (Assign_Tuple (eLoc st rfl (unp hA.hh st (ht.keeps st.keep) (by rfl) (by rfl) (fun s₂ f₂ st₂ => ?_))))
  refine assignInOrder_cons (assign_Name (sLoc st₂ fun s₃ f₃ st₃ => ?_))
  refine assignInOrder_cons (assign_Name (sLoc st₃ fun s₄ f₄ st₄ => ?_))
  refine assignInOrder_cons (assign_Name (sLoc st₄ fun s₅ f₅ st₅ => assignInOrder_nil ?_))
  refine wpAny_execs_cons (wpAny_Return_some (Tuple_ (args_cons (cDef st₅ (by rfl) (by rfl) (by rfl) (args_cons (eLoc st₅ rfl (args_nil ⟨st₅.base, ?_⟩)))))))
  refine c_base hA W st₅.base hx fun t s₆ f₆ k₆ => ?_
  have st₆ := st₅.keeps k₆
  refine args_cons (eLoc st₆ rfl (args_cons (eLoc st₆ rfl (args_nil (mkTup st₆ fun b s₇ f₇ st₇ hb k₇ => ?_)))))
  exact k _ _ _ (f₁.trans (f₂.trans (f₃.trans (f₄.trans (f₅.trans (f₆.trans f₇)))))) (fun b o e => st₇.keep b o (.inl e)) (hb.at st₇)
end Mine
end

section
set_option linter.unusedVariables false
set_option maxRecDepth 100000
set_option maxHeartbeats 1000000
namespace Mine
variable {w : World} {mg mb : Str → Option Value} {B : Heap} {A : Around} {E : Value → Shared → Prop} {s : Shared} {S : Addr → Obj → Prop} {l : List (Addr × Obj)} {m : Str → Option Value} {env : Env} {M : Model}
theorem St.drop0 {L : Addr} {h h' : Heap} {a : Addr} {p : Obj} (t : St w mg mb B S ((a, p) :: l) L m h) (hs : Heap.ExtBut a h h') : St w mg mb B S l L m h' := by
  have ha := t.moff _ (List.mem_cons_self ..)
  exact ⟨t.W, t.ns.extBut hs (fun e => ha.1 e.symm), fun b o e => hs b o (fun q => ha.2 o (q ▸ e)) (t.keep b o e), t.off, t.sub,
    fun q hq => hs _ _ (fun e => (List.nodup_cons.1 t.nd).1 (List.mem_map.2 ⟨q, hq, e⟩)) (t.mu q (List.mem_cons_of_mem _ hq)),
    fun q hq => t.moff q (List.mem_cons_of_mem _ hq), (List.nodup_cons.1 t.nd).2⟩
abbrev JJ := Nat → (Addr → Obj → Prop) → List (Addr × Obj) → (Str → Option Value) → Shared → Prop
theorem loopW {it : Addr} {fp : List Addr} {n : Nat} {P : Nat → Value → Prop} {Wst : Nat → Heap → Prop} {target : Expr} {body : List Stmt} {o : Obj} {R : Result → Shared → Prop}
    (Wk : Walks PR w A it fp [it] n P Wst) (hat : ∀ i h, Wst i h → ∃ o, h.get? it = some o)
    (J : JJ) (hJ : ∀ i S l m s s', Fro s s' → J i S l m s → J i S l m s')
    (hfp : ∀ b ∈ fp, b = it ∨ ∃ o, S b o)
    (st : St w mg mb B S ((it, o) :: l) env.locals m s.heap) (hst : Wst 0 s.heap) (h0 : J 0 S l m s)
    (step : ∀ i v S' l' m' o' s₁, i < n → P i v → (∀ b o, S b o → S' b o) → Wst (i + 1) s₁.heap → J i S' l' m' s₁ → St w mg mb B S' ((it, o') :: l') env.locals m' s₁.heap →
      wpAny (model PR w) A (letOwnedTupleGo target (.ref it) v) (fun _ s₁' => wpAny (model PR w) A (assign target env v) (fun _ s₂ => wpAny (model PR w) A (execs body env) (fun f s₃ => match f with
        | .next | .cont => ∃ S'' l'' m'', (∀ b o, S' b o → S'' b o) ∧ St w mg mb B S'' ((it, o') :: l'') env.locals m'' s₃.heap ∧ J (i + 1) S'' l'' m'' s₃
        | .brk => R (.ok .next) s₃
        | .ret v => R (.ok (.ret v)) s₃) (fun _ _ => False) s₂) (fun _ _ => False) s₁') (fun _ _ => False) s₁)
    (done : ∀ S' l' m' s', (∀ b o, S b o → S' b o) → J n S' l' m' s' → St w mg mb B S' l' env.locals m' s'.heap → R (.ok .next) s') :
    codeAny (model PR w) A (.forLoop target (.ref it) body [] env) R s := by
  refine codeAny_forLoop_any (fun k s' => ∃ i S' l' m' o', i ≤ n ∧ k = n + 1 - i ∧ (∀ b o, S b o → S' b o) ∧ Wst i s'.heap ∧ J i S' l' m' s' ∧ St w mg mb B S' ((it, o') :: l') env.locals m' s'.heap) ?_ (n + 1)
    ⟨0, S, l, m, o, Nat.zero_le _, rfl, fun _ _ e => e, hst, h0, st⟩
  rintro k s' ⟨i, S', l', m', o', hi, rfl, hS, hW, hJ', st'⟩
  rcases Nat.lt_or_ge i n with hlt | hge
  · refine Wk.item i s' _ _ hlt hW fun v h' tk hP hW' hk => ?_
    have hk' : Heap.ExtBut it s'.heap h' := fun b o hb e => hk b o (by simpa using hb) e
    obtain ⟨o₂, ho₂⟩ := hat _ _ hW'
    have st₂ := st'.mut0 ho₂ hk'
    refine wpAny_mono (step i v S' l' m' o₂ { s' with heap := h', toks := tk } hlt hP hS hW' (hJ _ _ _ _ _ _ (Fro.mk' _ _) hJ') st₂) (fun _ s₁' q => ?_) (fun _ _ x => x.elim)
    refine wpAny_mono q (fun _ s₂ q => ?_) (fun _ _ x => x.elim)
    refine wpAny_mono q (fun f s₃ q => ?_) (fun _ _ x => x.elim)
    have goon : (∃ S'' l'' m'', (∀ b o, S' b o → S'' b o) ∧ St w mg mb B S'' ((it, o₂) :: l'') env.locals m'' s₃.heap ∧ J (i + 1) S'' l'' m'' s₃) →
        ∃ k', k' < n + 1 - i ∧ ∃ i' S'' l'' m'' o'', i' ≤ n ∧ k' = n + 1 - i' ∧ (∀ b o, S b o → S'' b o) ∧ Wst i' s₃.heap ∧ J i' S'' l'' m'' s₃ ∧ St w mg mb B S'' ((it, o'') :: l'') env.locals m'' s₃.heap := by
      rintro ⟨S'', l'', m'', hS', st₃, hJ₃⟩
      refine ⟨n + 1 - (i + 1), by omega, i + 1, S'', l'', m'', o₂, hlt, rfl, fun b o e => hS' b o (hS b o e), Wk.frame _ _ _ hW' ?_, hJ₃, st₃⟩
      intro b hb ob eb
      rcases hfp b hb with rfl | ⟨o₃, e₃⟩
      · exact st₃.at0.trans (ho₂.symm.trans eb)
      · have e4 := st₂.keep b o₃ (hS b o₃ e₃)
        have e5 : h'.get? b = some ob := eb
        rw [e4] at e5
        cases e5
        exact st₃.keep b _ (hS' _ _ (hS b _ e₃))
    cases f <;> first | exact goon q | exact q
  · have hin : i = n := Nat.le_antisymm hi hge
    subst hin
    refine Wk.done s' _ _ hW fun h' tk hk => wpAny_execs_nil ?_
    exact done S' l' m' _ hS (hJ _ _ _ _ _ _ (Fro.mk' _ _) hJ') (st'.drop0 fun b o hb e => hk b o (by simpa using hb) e)
end Mine
end

section
set_option linter.unusedVariables false
set_option maxRecDepth 100000
set_option maxHeartbeats 1000000
namespace Mine
variable {w : World} {mg mb : Str → Option Value} {B : Heap} {A : Around} {E : Value → Shared → Prop} {s : Shared} {S : Addr → Obj → Prop} {l : List (Addr × Obj)} {m : Str → Option Value} {env : Env} {M : Model}
/-- for x in .. -/
theorem loopN {it : Addr} {fp : List Addr} {n : Nat} {P : Nat → Value → Prop} {Wst : Nat → Heap → Prop} {x : Str} {p : Pos} {body : List Stmt} {o : Obj} {R : Result → Shared → Prop}
    (Wk : Walks PR w A it fp [it] n P Wst) (hat : ∀ i h, Wst i h → ∃ o, h.get? it = some o)
    (J : JJ) (hJ : ∀ i S l m s s', Fro s s' → J i S l m s → J i S l m s')
    (hfp : ∀ b ∈ fp, b = it ∨ ∃ o, S b o)
    (st : St w mg mb B S ((it, o) :: l) env.locals m s.heap) (hst : Wst 0 s.heap) (h0 : J 0 S l m s)
    (step : ∀ i v S' l' m' o' s₁, i < n → P i v → (∀ b o, S b o → S' b o) → J i S' l' m' s₁ → St w mg mb B S' ((it, o') :: l') env.locals (upd m' x v) s₁.heap →
      wpAny (model PR w) A (execs body env) (fun f s₃ => match f with
        | .next | .cont => ∃ S'' l'' m'', (∀ b o, S' b o → S'' b o) ∧ St w mg mb B S'' ((it, o') :: l'') env.locals m'' s₃.heap ∧ J (i + 1) S'' l'' m'' s₃
        | .brk => R (.ok .next) s₃
        | .ret v => R (.ok (.ret v)) s₃) (fun _ _ => False) s₁)
    (done : ∀ S' l' m' s', (∀ b o, S b o → S' b o) → J n S' l' m' s' → St w mg mb B S' l' env.locals m' s'.heap → R (.ok .next) s')
    (hk : env.scope.kind = .function := by rfl) (hl : env.kindOf x = some .local := by rfl) :
    codeAny (model PR w) A (.forLoop (.Name x p) (.ref it) body [] env) R s := by
  refine loopW Wk hat J hJ hfp st hst h0 (fun i v S' l' m' o' s₁ hi hP hS hW hJ' st' => ?_) done
  show wpAny _ _ (pure ()) _ _ _
  refine wpAny_pure (assign_Name (sLoc st' (fun s₂ f₂ st'' => ?_) hk hl))
  exact step i v S' l' m' o' _ hi hP hS (hJ _ _ _ _ _ _ f₂ hJ') st''
/-- for a, b, c, d in a list of tuples -/
theorem loop4 {it ax : Addr} {items : Array Value} {x₁ x₂ x₃ x₄ : Str} {p₁ p₂ p₃ p₄ pt : Pos} {x1} {body : List Stmt} {o : Obj} {R : Result → Shared → Prop} {G : Nat → Value → Value → Value → Value → Prop}
    (hA : A.handled = none) (hl : ListS S ax items.toList) (hT : ∀ i v, items[i]? = some v → ∃ t a b c d, v = .ref t ∧ TupS S t [a, b, c, d] ∧ G i a b c d)
    (J : JJ) (hJ : ∀ i S l m s s', Fro s s' → J i S l m s → J i S l m s')
    (st : St w mg mb B S ((it, o) :: l) env.locals m s.heap) (hst : s.heap.IsListIter it ax 0) (h0 : J 0 S l m s)
    (step : ∀ i a b c d S' l' m' o' s₁, i < items.size → G i a b c d → (∀ b o, S b o → S' b o) → J i S' l' m' s₁ → St w mg mb B S' ((it, o') :: l') env.locals (upd (upd (upd (upd m' x₁ a) x₂ b) x₃ c) x₄ d) s₁.heap →
      wpAny (model PR w) A (execs body env) (fun f s₃ => match f with
        | .next | .cont => ∃ S'' l'' m'', (∀ b o, S' b o → S'' b o) ∧ St w mg mb B S'' ((it, o') :: l'') env.locals m'' s₃.heap ∧ J (i + 1) S'' l'' m'' s₃
        | .brk => R (.ok .next) s₃
        | .ret v => R (.ok (.ret v)) s₃) (fun _ _ => False) s₁)
    (done : ∀ S' l' m' s', (∀ b o, S b o → S' b o) → J items.size S' l' m' s' → St w mg mb B S' l' env.locals m' s'.heap → R (.ok .next) s')
    (hk : env.scope.kind = .function := by rfl) (h1 : env.kindOf x₁ = some .local := by rfl) (h2 : env.kindOf x₂ = some .local := by rfl) (h3 : env.kindOf x₃ = some .local := by rfl) (h4 : env.kindOf x₄ = some .local := by rfl) :
    codeAny (model PR w) A (.forLoop (.Tuple [.Name x₁ p₁, .Name x₂ p₂, .Name x₃ p₃, .Name x₄ p₄] x1 pt) (.ref it) body [] env) R s := by
  have hne : ax ≠ it := fun e => by
    obtain ⟨o', e', _⟩ := hl
    exact (st.moff _ (List.mem_cons_self ..)).2 o' (e ▸ e')
  refine loopW (Walks.list hA it ax hne items) (fun i h q => ⟨_, q.1.choose_spec.1⟩) J hJ (fun b hb => ?_) st ⟨hst, by simpa using hl.at st⟩ h0 (fun i v S' l' m' o' s₁ hi hP hS hW hJ' st' => ?_) done
  · rcases List.mem_cons.1 hb with rfl | hb
    · exact .inl rfl
    · rw [List.mem_singleton.1 hb]; obtain ⟨o', e', _⟩ := hl; exact .inr ⟨o', e'⟩
  · obtain ⟨t, a, b, c, d, rfl, ht, hG⟩ := hT i v hP
    refine wpAny_letOwnedTupleGo_listiter hW.1 ?_
    refine unp hA st' ((ht.mono hS).at st') (by rfl) (by rfl) fun s₂ f₂ st₂ => ?_
    refine assignInOrder_cons (assign_Name (sLoc st₂ (fun s₃ f₃ st₃ => ?_) hk h1))
    refine assignInOrder_cons (assign_Name (sLoc st₃ (fun s₄ f₄ st₄ => ?_) hk h2))
    refine assignInOrder_cons (assign_Name (sLoc st₄ (fun s₅ f₅ st₅ => ?_) hk h3))
    refine assignInOrder_cons (assign_Name (sLoc st₅ (fun s₆ f₆ st₆ => assignInOrder_nil ?_) hk h4))
    exact step i a b c d S' l' m' o' _ hi hG hS (hJ _ _ _ _ _ _ (f₂.trans (f₃.trans (f₄.trans (f₅.trans f₆)))) hJ') st₆
noncomputable abbrev KD (w : World) : PySem.KeyKind PR w Str := PySem.strKind PR w
/-- a dict that stays -/
def DictS (w : World) (S : Addr → Obj → Prop) (d : Addr) (kvs : List (Str × Value)) (ep : Nat) : Prop :=
  ∃ o, S d o ∧ ∃ es, o.ExactDict ∧ o.data = .dict es ep ∧ PySem.KeysOf (KD w) es ∧ Pairs (KD w) es.toList kvs ∧ (kvs.map (·.1)).Nodup
theorem DictS.at {L : Addr} {h : Heap} {d : Addr} {kvs : List (Str × Value)} {ep : Nat} (x : DictS w S d kvs ep) (t : St w mg mb B S l L m h) : h.DictAt (KD w) d kvs ep :=
  let ⟨o, e, es, r⟩ := x; ⟨o, es, t.keep _ _ e, r⟩
theorem DictS.mono {S' : Addr → Obj → Prop} {d : Addr} {kvs : List (Str × Value)} {ep : Nat} (x : DictS w S d kvs ep) (h : ∀ b o, S b o → S' b o) : DictS w S' d kvs ep := let ⟨o, e, r⟩ := x; ⟨o, h _ _ e, r⟩
theorem DictS.of {d : Addr} {kvs : List (Str × Value)} {h : Heap} (x : h.DictOf (KD w) d kvs) (hS : ∀ b o, h.get? b = some o → S b o) : ∃ ep, DictS w S d kvs ep := let ⟨o, es, ep, e, r⟩ := x; ⟨ep, o, hS _ _ e, es, r⟩
abbrev itemIt (d : Addr) (i n ep : Nat) (ok ov : Value) : Obj := { cls := .type "dict_itemiterator", dict := none, data := .fields #[.none, .bool false, .ref d, .int i 0, .int n 0, .int ep 0, ok, ov], slots := #[] }
/-- for a, b in d.items() -/
theorem loopI {it d : Addr} {kvs : List (Str × Value)} {ep : Nat} {xk xv : Str} {pk pv pt : Pos} {x1} {body : List Stmt} {R : Result → Shared → Prop}
    (hA : A.handled = none) (hd : DictS w S d kvs ep)
    (J : JJ) (hJ : ∀ i S l m s s', Fro s s' → J i S l m s → J i S l m s')
    (st : St w mg mb B S ((it, itemIt d 0 kvs.length ep .none .none) :: l) env.locals m s.heap) (h0 : J 0 S l m s)
    (step : ∀ i k v key S' l' m' o' s₁, kvs[i]? = some (k, v) → (KD w).is k key = true → (∀ b o, S b o → S' b o) → J i S' l' m' s₁ → St w mg mb B S' ((it, o') :: l') env.locals (upd (upd m' xk key) xv v) s₁.heap →
      wpAny (model PR w) A (execs body env) (fun f s₃ => match f with
        | .next | .cont => ∃ S'' l'' m'', (∀ b o, S' b o → S'' b o) ∧ St w mg mb B S'' ((it, o') :: l'') env.locals m'' s₃.heap ∧ J (i + 1) S'' l'' m'' s₃
        | .brk => R (.ok .next) s₃
        | .ret v => R (.ok (.ret v)) s₃) (fun _ _ => False) s₁)
    (done : ∀ S' l' m' s', (∀ b o, S b o → S' b o) → J kvs.length S' l' m' s' → St w mg mb B S' l' env.locals m' s'.heap → R (.ok .next) s')
    (hk : env.scope.kind = .function := by rfl) (h1 : env.kindOf xk = some .local := by rfl) (h2 : env.kindOf xv = some .local := by rfl) :
    codeAny (model PR w) A (.forLoop (.Tuple [.Name xk pk, .Name xv pv] x1 pt) (.ref it) body [] env) R s := by
  refine codeAny_forLoop_any (fun k s' => ∃ i S' l' m' ok ov, i ≤ kvs.length ∧ k = kvs.length + 1 - i ∧ (∀ b o, S b o → S' b o) ∧ J i S' l' m' s' ∧ St w mg mb B S' ((it, itemIt d i kvs.length ep ok ov) :: l') env.locals m' s'.heap) ?_ (kvs.length + 1)
    ⟨0, S, l, m, .none, .none, Nat.zero_le _, rfl, fun _ _ e => e, h0, st⟩
  rintro k s' ⟨i, S', l', m', ok, ov, hi, rfl, hS, hJ', st'⟩
  have hm' := (hd.mono hS).at st'
  cases hv : kvs[i]? with
  | none =>
    have hsz : i = kvs.length := Nat.le_antisymm hi (by simpa using hv)
    refine wpAny_pyNext_items_end hA st'.at0 hm' hv fun h₁ he₁ => wpAny_execs_nil ?_
    have := hJ _ _ _ _ _ { s' with heap := h₁ } ⟨_, _, rfl⟩ hJ'
    rw [hsz] at this
    exact done S' l' m' _ hS this (st'.drop0 he₁)
  | some kv =>
    obtain ⟨k, v⟩ := kv
    have hlt : i < kvs.length := (List.getElem?_eq_some_iff.mp hv).1
    refine wpAny_pyNext_items_item st'.at0 hm' hv fun key h₁ hkey heo ht₁ hz₁ hk₁ => ?_
    have st₁ := st'.mut0 heo (fun b o hb e => hk₁ b o hb e)
    have hTi : s'.heap.objs.size ≠ it := fun e => absurd (Heap.lt_size st'.at0) (e ▸ Nat.lt_irrefl _)
    refine wpAny_letOwnedTupleGo_items heo fun h₂ he₂ hs₂ => ?_
    have st₂ := st₁.mut0 he₂ hs₂.extBut
    have ht₂ : IsTup h₂ s'.heap.objs.size #[key, v] := ⟨_, (hs₂.2 _ hTi).trans ht₁, rfl, _, rfl⟩
    refine unp hA st₂ ht₂ (by rfl) (by rfl) fun s₃ f₃ st₃ => ?_
    refine assignInOrder_cons (assign_Name (sLoc st₃ (fun s₄ f₄ st₄ => ?_) hk h1))
    refine assignInOrder_cons (assign_Name (sLoc st₄ (fun s₅ f₅ st₅ => assignInOrder_nil ?_) hk h2))
    have h6 : J i S' l' m' s₅ := hJ _ _ _ _ s' _ ((Fro.mk' (s := s') h₂ s'.toks).trans (f₃.trans (f₄.trans f₅))) hJ'
    refine wpAny_mono (step i k v key S' l' m' _ _ hv hkey hS h6 st₅) (fun f s₃ q => ?_) (fun _ _ x => x.elim)
    have goon : (∃ S'' l'' m'', (∀ b o, S' b o → S'' b o) ∧ St w mg mb B S'' ((it, itemIt d (i + 1) kvs.length ep key v) :: l'') env.locals m'' s₃.heap ∧ J (i + 1) S'' l'' m'' s₃) →
        ∃ k', k' < kvs.length + 1 - i ∧ ∃ i' S'' l'' m'' ok ov, i' ≤ kvs.length ∧ k' = kvs.length + 1 - i' ∧ (∀ b o, S b o → S'' b o) ∧ J i' S'' l'' m'' s₃ ∧ St w mg mb B S'' ((it, itemIt d i' kvs.length ep ok ov) :: l'') env.locals m'' s₃.heap := by
      rintro ⟨S'', l'', m'', hS', st₃, hJ₃⟩
      exact ⟨kvs.length + 1 - (i + 1), by omega, i + 1, S'', l'', m'', key, v, hlt, rfl, fun b o e => hS' b o (hS b o e), hJ₃, st₃⟩
    cases f <;> first | exact goon q | exact q
end Mine
end

section
set_option linter.unusedVariables false
set_option maxRecDepth 100000
set_option maxHeartbeats 1000000
namespace Mine
variable {w : World} {mg mb : Str → Option Value} {B : Heap} {A : Around} {E : Value → Shared → Prop} {s : Shared} {S : Addr → Obj → Prop} {l : List (Addr × Obj)} {m : Str → Option Value} {env : Env} {M : Model}
def IsKV (p : Str × Value) (q : Str × Int) : Prop := p.1 = q.1 ∧ ∃ t, p.2 = .int q.2 t
/-- a dict of texts and ints -/
def TabOf (w : World) (h : Heap) (d : Addr) (tab : List (Str × Int)) : Prop := ∃ kvs, h.DictOf (KD w) d kvs ∧ Paired IsKV kvs tab
theorem pairedGet {α β : Type} {F : α → β → Prop} {a : List α} {b : List β} (h : Paired F a b) {i : Nat} {x : α} (hx : a[i]? = some x) : ∃ y, b[i]? = some y ∧ F x y := by
  induction h generalizing i with
  | nil => simp at hx
  | cons h1 h2 ih =>
    cases i with
    | zero => simp at hx; subst hx; exact ⟨_, rfl, h1⟩
    | succ i => simp at hx; simpa using ih hx
theorem takeSucc {α : Type} {a : List α} {i : Nat} {x : α} (h : a[i]? = some x) : a.take (i + 1) = a.take i ++ [x] := by
  rw [List.take_add_one, h]; rfl
theorem eVals {o : Expr} {apos pos : Pos} {d : Addr} {kvs : List (Str × Value)} {Q : Value → Shared → Prop}
    (hbase : attributeBase o "values" env (eval o env) = eval o env) (hline : (apos.endLine == pos.line) = true)
    (h : wpAny (model PR w) A (eval o env) (fun v s₁ => ∃ d kvs, v = .ref d ∧ (d == sysModules) = false ∧ s₁.heap.DictOf (KD w) d kvs ∧ Q (.ref s₁.heap.objs.size) { s₁ with heap := s₁.heap.push { cls := .type "dict_values", data := .fields #[.ref d] } }) E s) :
    wpAny (model PR w) A (eval (.Call (.Attribute o "values" apos) [] [] pos) env) Q E s := by
  refine Call_method0 hbase hline (wpAny_mono h ?_ fun _ _ e => e)
  rintro v s₁ ⟨d, kvs, rfl, hd, hm, hQ⟩
  exact ⟨"dict", "dict.values", PySem.F.plainAttrs_dict, PySem.F.slot_dict_values, PySem.F.type_dict_values, hm.typeIs, hm.mapOf.noDict,
    method_meetsIn PySem.F.slot_dict_values PySem.F.entry_dict_values rfl (PySem.evalArgs_none ⟨rfl, hm.typeIs, PySem.F.args_dict_values_1 _, _, meets_dict_values (KD w) d hd, ⟨kvs, hm⟩, hQ⟩)⟩
theorem eItems {o : Expr} {apos pos : Pos} {Q : Value → Shared → Prop}
    (hbase : attributeBase o "items" env (eval o env) = eval o env) (hline : (apos.endLine == pos.line) = true)
    (h : wpAny (model PR w) A (eval o env) (fun v s₁ => ∃ d kvs, v = .ref d ∧ (d == sysModules) = false ∧ s₁.heap.DictOf (KD w) d kvs ∧ Q (.ref s₁.heap.objs.size) { s₁ with heap := s₁.heap.push { cls := .type "dict_items", data := .fields #[.ref d] } }) E s) :
    wpAny (model PR w) A (eval (.Call (.Attribute o "items" apos) [] [] pos) env) Q E s := by
  refine Call_method0 hbase hline (wpAny_mono h ?_ fun _ _ e => e)
  rintro v s₁ ⟨d, kvs, rfl, hd, hm, hQ⟩
  exact ⟨"dict", "dict.items", PySem.F.plainAttrs_dict, PySem.F.slot_dict_items, PySem.F.type_dict_items, hm.typeIs, hm.mapOf.noDict,
    method_meetsIn PySem.F.slot_dict_items PySem.F.entry_dict_items rfl (PySem.evalArgs_none ⟨rfl, hm.typeIs, PySem.F.args_dict_items_1 _, _, meets_dict_items (KD w) d hd, ⟨kvs, hm⟩, hQ⟩)⟩
def sumTab (t : List (Str × Int)) : Int := (t.map (·.2)).sum
theorem c_count {d : Addr} {tab : List (Str × Int)} {Q : Value → Shared → Prop} (hA : OkA A 2) (W : Wd w mg mb B) (hB : Kp B s.heap) (hd : (d == sysModules) = false) (ht : TabOf w s.heap d tab)
    (k : ∀ t s', Fro s s' → Kp s.heap s'.heap → Q (.int (sumTab tab) t) s') :
    wpAny (model PR w) A (call (.ref 70) [.ref d]) Q E s := by
  refine callK (n := 1) hA W hB (by rfl) (by rfl) (by rfl) (by rfl) (BindsTo.of_eq rfl) (by decide) (locs rfl) ?_
  intro s₁ f₁ st hA
  obtain ⟨kvs, hkv, hp⟩ := ht
  obtain ⟨ep, hdS⟩ := DictS.of hkv (S := fun b o => s.heap.get? b = some o) fun _ _ e => e
  refine wpAny_execs_cons (aName W (wpAny_Constant_int ?_))
  refine ⟨_, _, _, st, fun s₂ f₂ st₂ => ?_⟩
  refine wpAny_execs_cons (wpAny_For (eVals (d := d) (kvs := kvs) (by rfl) (by rfl) (eLoc st₂ rfl ⟨d, kvs, rfl, hd, (hdS.at st₂).dictOf, ?_⟩)))
  have st₃ := st₂.pushN { cls := .type "dict_values", data := .fields #[.ref d] }
  refine wpAny_pyIter_values (knd := KD w) (d := d) (kvs := kvs) (ep := ep) ⟨_, Heap.get?_push_size _ rfl, rfl, rfl⟩ (hdS.at st₃) ?_
  have st₄ := st₃.pushM { cls := .type "dict_valueiterator", data := .fields #[.ref d, .int 0 0, .int kvs.length 0, .int ep 0] }
  have hne : d ≠ (s₂.heap.push { cls := .type "dict_values", data := .fields #[.ref d] }).objs.size := fun e => absurd (hdS.at st₃).lt_size (by rw [← e]; exact Nat.lt_irrefl _)
  refine loopN (Walks.dictValues (knd := KD w) hA.hh _ d hne kvs ep) (fun i h q => ⟨_, q.1.choose_spec.1⟩)
    (fun i S' l' m' s' => Fro s s' ∧ ∃ t, m' "nc" = some (.int (sumTab (tab.take i)) t)) (fun i S l m s s' f h => ⟨h.1.trans f, h.2⟩) (fun b hb => ?_) st₄ ⟨⟨_, st₄.at0, rfl, rfl⟩, hdS.at st₄⟩ ⟨f₁.trans f₂.fin, _, rfl⟩ ?_ ?_
  · rcases List.mem_cons.1 hb with rfl | hb
    · exact .inl rfl
    · rw [List.mem_singleton.1 hb]; obtain ⟨o', e', _⟩ := hdS; exact .inr ⟨o', e'⟩
  · rintro i v S' l' m' o' s₃ hi ⟨ky, hv⟩ hS ⟨hf, t, hm⟩ st₅
    obtain ⟨⟨qk, c⟩, hq, _, t', rfl⟩ := pairedGet hp hv
    refine wpAny_execs_cons (wpAny_AugAssign_Name (wpAny_loadName_local (by rfl) (by rfl) st₅.ns (v := .int (sumTab (tab.take i)) t) (by exact hm) (eLoc st₅ rfl (PySem.AutoIntOps.iadd_0 ?_))))
    refine sLoc st₅ fun s₆ f₆ st₆ => wpAny_execs_nil ?_
    refine ⟨_, _, _, fun _ _ e => e, st₆, hf.trans f₆, s₃.toks, ?_⟩
    rw [takeSucc hq]
    simp [upd, sumTab, List.map_append]
  · rintro S' l' m' s' hS ⟨hf, t, hm⟩ st₅
    refine wpAny_execs_cons (wpAny_Return_some (eLoc st₅ hm ?_))
    rw [List.take_of_length_le (by rw [hp.length]; exact Nat.le_refl _)]
    exact k _ _ hf (fun b o e => st₅.keep b o (hS b o e))
end Mine
end

section
set_option linter.unusedVariables false
namespace Mine
def bump : List (Str × Int) → Str → Int → List (Str × Int)
  | [], k, c => [(k, c)]
  | (k', c') :: r, k, c => if k' = k then (k', c' + c) :: r else (k', c') :: bump r k c
def valT : List (Str × Int) → Str → Option Int
  | [], _ => none
  | (k', c') :: r, k => if k' = k then some c' else valT r k
theorem valueAt_cons {kv : Str × Value} {kvs : List (Str × Value)} {k : Str} : valueAt (kv :: kvs) k = if kv.1 = k then some kv.2 else valueAt kvs k := by
  unfold valueAt
  by_cases h : kv.1 = k
  · simp [h]
  · simp [h]
theorem valAt {kvs : List (Str × Value)} {tab : List (Str × Int)} (h : Paired IsKV kvs tab) (k : Str) : (valueAt kvs k = none ∧ valT tab k = none) ∨ ∃ c t, valueAt kvs k = some (.int c t) ∧ valT tab k = some c := by
  induction h with
  | nil => exact .inl ⟨rfl, rfl⟩
  | @cons a b l₁ l₂ h1 h2 ih =>
    obtain ⟨e, t, e2⟩ := h1
    obtain ⟨b1, b2⟩ := b
    rw [valueAt_cons]
    simp only [valT]
    have e' : a.1 = b1 := e
    rw [e']
    by_cases q : b1 = k
    · rw [if_pos q, if_pos q]; exact .inr ⟨b2, t, by rw [e2], rfl⟩
    · rw [if_neg q, if_neg q]; exact ih
theorem any_iff {kvs : List (Str × Value)} {k : Str} : (kvs.any fun kv => decide (kv.1 = k)) = (valueAt kvs k).isSome := by
  induction kvs with
  | nil => rfl
  | cons a r ih =>
    rw [valueAt_cons, List.any_cons, ih]
    by_cases q : a.1 = k <;> simp [q]
theorem stored_none {kvs : List (Str × Value)} {k : Str} {v : Value} (h : valueAt kvs k = none) : stored kvs k v = kvs ++ [(k, v)] := by
  unfold stored
  rw [any_iff, h]; rfl
theorem map_id_of {kvs : List (Str × Value)} {k : Str} {v : Value} (h : valueAt kvs k = none) : (kvs.map fun kv => if kv.1 = k then (kv.1, v) else kv) = kvs := by
  induction kvs with
  | nil => rfl
  | cons a r ih =>
    rw [valueAt_cons] at h
    by_cases q : a.1 = k
    · rw [if_pos q] at h; cases h
    · rw [if_neg q] at h
      rw [List.map_cons, ih h, if_neg q]
theorem valueAt_notMem {kvs : List (Str × Value)} {k : Str} (h : k ∉ kvs.map (·.1)) : valueAt kvs k = none := by
  induction kvs with
  | nil => rfl
  | cons a r ih =>
    rw [List.map_cons, List.mem_cons, not_or] at h
    rw [valueAt_cons, if_neg (fun e => h.1 e.symm)]; exact ih h.2
theorem stored_old {kvs : List (Str × Value)} {tab : List (Str × Int)} (h : Paired IsKV kvs tab) (hn : (kvs.map (·.1)).Nodup) {k : Str} {c0 c : Int} {t : Tok} (hv : valT tab k = some c0) :
    Paired IsKV (stored kvs k (.int (c0 + c) t)) (bump tab k c) := by
  have e : stored kvs k (.int (c0 + c) t) = kvs.map fun kv => if kv.1 = k then (kv.1, .int (c0 + c) t) else kv := by
    unfold stored
    rw [any_iff]
    rcases valAt h k with ⟨_, e⟩ | ⟨c', t', e1, e2⟩
    · rw [hv] at e; cases e
    · rw [e1]; rfl
  rw [e]
  clear e
  induction h with
  | nil => cases hv
  | @cons a b l₁ l₂ h1 h2 ih =>
    obtain ⟨b1, b2⟩ := b
    have e' : a.1 = b1 := h1.1
    simp only [valT] at hv
    simp only [bump, List.map_cons]
    rw [List.map_cons, List.nodup_cons] at hn
    by_cases q : b1 = k
    · rw [if_pos q] at hv ⊢
      cases hv
      rw [if_pos (e'.trans q), map_id_of (valueAt_notMem (by rw [← q, ← e']; exact hn.1))]
      exact .cons ⟨e', t, rfl⟩ h2
    · rw [if_neg q] at hv ⊢
      rw [if_neg (fun x => q (e'.symm.trans x))]
      exact .cons h1 (ih hn.2 hv)
theorem bump_none {tab : List (Str × Int)} {k : Str} {c : Int} (h : valT tab k = none) : bump tab k c = tab ++ [(k, c)] := by
  induction tab with
  | nil => rfl
  | cons a r ih =>
    obtain ⟨a1, a2⟩ := a
    simp only [valT] at h
    by_cases q : a1 = k
    · rw [if_pos q] at h; cases h
    · rw [if_neg q] at h
      simp only [bump]
      rw [if_neg q, ih h]; rfl
theorem stored_new {kvs : List (Str × Value)} {tab : List (Str × Int)} (h : Paired IsKV kvs tab) {k : Str} {c : Int} {t : Tok} (hv : valT tab k = none) : Paired IsKV (stored kvs k (.int c t)) (bump tab k c) := by
  rw [bump_none hv, stored_none ?_]
  · exact h.snoc ⟨rfl, t, rfl⟩
  · rcases valAt h k with ⟨e, _⟩ | ⟨c', t', e1, e2⟩
    · exact e
    · rw [hv] at e2; cases e2
theorem stored_take {kvs : List (Str × Value)} (hn : (kvs.map (·.1)).Nodup) {i : Nat} {k : Str} {v : Value} (h : kvs[i]? = some (k, v)) : stored (kvs.take i) k v = kvs.take (i + 1) := by
  rw [takeSucc h, stored_none]
  apply valueAt_notMem
  intro hm
  have hlt : i < kvs.length := (List.getElem?_eq_some_iff.mp h).1
  have e : kvs = kvs.take i ++ (k, v) :: kvs.drop (i + 1) := by
    conv => lhs; rw [← List.take_append_drop i kvs]
    rw [List.drop_eq_getElem_cons hlt, (List.getElem?_eq_some_iff.mp h).2]
  rw [e, List.map_append, List.map_cons] at hn
  have := (List.nodup_append.1 hn).2.2
  exact this k (by rw [List.map_take] at *; exact hm) k (List.mem_cons_self ..) rfl
end Mine
end

section
set_option linter.unusedVariables false
set_option maxRecDepth 100000
set_option maxHeartbeats 1000000
namespace Mine
variable {w : World} {mg mb : Str → Option Value} {B : Heap} {A : Around} {E : Value → Shared → Prop} {s : Shared} {S : Addr → Obj → Prop} {l : List (Addr × Obj)} {m : Str → Option Value} {env : Env} {M : Model}
theorem notSys {h : Heap} (W : Wd w mg mb B) (hB : Kp B h) {a : Addr} (ha : h.objs.size ≤ a) : (a == sysModules) = false := by
  have := Heap.lt_size (hB _ _ (W.X 118 _ (by rfl)))
  exact beq_eq_false_iff_ne.mpr fun e => by
    subst e
    exact absurd (Nat.lt_of_lt_of_le this ha) (by decide)
theorem bump_length (t : List (Str × Int)) (k : Str) (c : Int) : (bump t k c).length ≤ t.length + 1 := by
  induction t with
  | nil => simp [bump]
  | cons a r ih =>
    obtain ⟨a1, a2⟩ := a
    simp only [bump]
    by_cases q : a1 = k
    · rw [if_pos q]; simp
    · rw [if_neg q]; simp; exact ih
def bumps (t : List (Str × Int)) (r : List (Str × Int)) : List (Str × Int) := r.foldl (fun t p => bump t p.1 p.2) t
theorem bumps_length (t r : List (Str × Int)) : (bumps t r).length ≤ t.length + r.length := by
  unfold bumps
  induction r generalizing t with
  | nil => simp
  | cons a r ih =>
    rw [List.foldl_cons]
    have := ih (bump t a.1 a.2)
    have h2 := bump_length t a.1 a.2
    simp only [List.length_cons]
    omega
theorem c_addc {d e : Addr} {tab src : List (Str × Int)} {Q : Value → Shared → Prop} (hA : OkA A 3) (W : Wd w mg mb B) (hB : Kp B s.heap)
    (hd : (d == sysModules) = false) (he : (e == sysModules) = false) (ht : TabOf w s.heap d tab) (hs : TabOf w s.heap e src) (hsz : tab.length + src.length ≤ 1000)
    (k : ∀ b s', Fro s s' → Kp s.heap s'.heap → (b == sysModules) = false → s.heap.get? b = none → TabOf w s'.heap b (bumps tab src) → Q (.ref b) s') :
    wpAny (model PR w) A (call (.ref 63) [.ref d, .ref e]) Q E s := by
  refine callK (n := 2) hA W hB (by rfl) (by rfl) (by rfl) (by rfl) (BindsTo.of_eq rfl) (by decide) (locs rfl) ?_
  intro s₁ f₁ st hA
  obtain ⟨kvs, hkv, hp⟩ := ht
  obtain ⟨kus, hku, hq⟩ := hs
  obtain ⟨ep, hdS⟩ := DictS.of hkv (S := fun b o => s.heap.get? b = some o) fun _ _ e => e
  obtain ⟨eq, heS⟩ := DictS.of hku (S := fun b o => s.heap.get? b = some o) fun _ _ e => e
  refine wpAny_execs_cons (aName W (wpAny_Dict_empty ?_))
  refine ⟨_, _, _, st.pushM _, fun s₂ f₂ st₂ => ?_⟩
  have hbS : (s₁.heap.objs.size == sysModules) = false := notSys W st.base (Nat.le_refl _)
  have hfr : s.heap.get? s₁.heap.objs.size = none := by
    cases e : s.heap.get? s₁.heap.objs.size with
    | none => rfl
    | some o => exact absurd (Heap.lt_size (st.keep _ _ e)) (Nat.lt_irrefl _)
  generalize s₁.heap.objs.size = b at st₂ hbS hfr
  have ho : Obj.IsDictOf (KD w) ({ cls := .type "dict", data := .dict #[] } : Obj) [] := by
    obtain ⟨o, h1, h2⟩ := Heap.dictOf_iff.1 (Heap.DictOf.new (knd := KD w) s₁.heap)
    rw [Heap.get?_push_size _ rfl] at h1
    cases h1; exact h2
  generalize ({ cls := .type "dict", data := .dict #[] } : Obj) = o at st₂ ho
  -- the first loop
  refine wpAny_execs_cons (wpAny_For (eItems (by rfl) (by rfl) (eLoc st₂ rfl ⟨d, kvs, rfl, hd, (hdS.at st₂).dictOf, ?_⟩)))
  have st₃ := st₂.pushN { cls := .type "dict_items", data := .fields #[.ref d] }
  refine wpAny_pyIter_items (knd := KD w) (d := d) (kvs := kvs) (ep := ep) ⟨_, Heap.get?_push_size _ rfl, rfl, rfl⟩ (hdS.at st₃) ?_
  have st₄ := st₃.pushM (itemIt d 0 kvs.length ep .none .none)
  refine loopI hA.hh hdS (fun i S' l' m' s' => Fro s s' ∧ m' "new_callers" = some (.ref b) ∧ m' "source" = some (.ref e) ∧ ∃ o, l' = [(b, o)] ∧ o.IsDictOf (KD w) (kvs.take i)) (fun i S l m s s' f h => ⟨h.1.trans f, h.2⟩) st₄
    ⟨f₁.trans (Fro.trans f₂.fin (Fro.refl _)), rfl, rfl, o, rfl, by simpa using ho⟩ ?_ ?_
  · rintro i ky v key S' l' m' o' s₃ hv hkey hS ⟨hf, hm, hm2, ob, rfl, hob⟩ st₅
    have hnd : (kvs.map (·.1)).Nodup := let ⟨_, _, _, _, _, _, _, h⟩ := hdS; h
    have hDo : s₃.heap.DictOf (KD w) b (kvs.take i) := Heap.dictOf_iff.2 ⟨ob, st₅.at1, hob⟩
    refine wpAny_execs_cons (wpAny_Assign_Subscript (eLoc st₅ rfl (eLoc st₅ (v := .ref b) (by exact hm) (eLoc st₅ rfl (wpAny_setItem_pairs hkey hDo (fun h' hd' hs' => wpAny_execs_nil ?_) ?_)))))
    · obtain ⟨ob', ho', hob'⟩ := Heap.dictOf_iff.1 hd'
      rw [stored_take hnd hv] at hob'
      exact ⟨_, _, _, fun _ _ e => e, st₅.mut1 ho' hs'.extBut, hf.fin, hm, hm2, ob', rfl, hob'⟩
    · have h1 := hp.length
      have h2 : (kvs.take i).length ≤ kvs.length := by rw [List.length_take]; omega
      rw [sizeLine_eq]; omega
  · rintro S' l' m' s₃ hS ⟨hf, hm, hm2, ob, rfl, hob⟩ st₅
    rw [List.take_of_length_le (Nat.le_refl _)] at hob
    have heS' := heS.mono hS
    -- the second loop
    refine wpAny_execs_cons (wpAny_For (eItems (by rfl) (by rfl) (eLoc st₅ hm2 ⟨e, kus, rfl, he, (heS'.at st₅).dictOf, ?_⟩)))
    have st₆ := st₅.pushN { cls := .type "dict_items", data := .fields #[.ref e] }
    refine wpAny_pyIter_items (knd := KD w) (d := e) (kvs := kus) (ep := eq) ⟨_, Heap.get?_push_size _ rfl, rfl, rfl⟩ (heS'.at st₆) ?_
    have st₇ := st₆.pushM (itemIt e 0 kus.length eq .none .none)
    refine loopI hA.hh heS' (fun i S' l' m' s' => Fro s s' ∧ m' "new_callers" = some (.ref b) ∧ ∃ o kvs', l' = [(b, o)] ∧ o.IsDictOf (KD w) kvs' ∧ Paired IsKV kvs' (bumps tab (src.take i))) (fun i S l m s s' f h => ⟨h.1.trans f, h.2⟩) st₇
      ⟨hf.trans (Fro.refl _), hm, ob, kvs, rfl, hob, by simpa [bumps] using hp⟩ ?_ ?_
    · rintro i ky v key S'' l'' m'' o' s₄ hv hkey hS' ⟨hf', hm', ob', kvs', rfl, hob', hp'⟩ st₈
      obtain ⟨⟨qk, c⟩, hqi, hqk, t', rfl⟩ := pairedGet hq hv
      have hqk : ky = qk := hqk
      subst hqk
      have hDo : s₄.heap.DictOf (KD w) b kvs' := Heap.dictOf_iff.2 ⟨ob', st₈.at1, hob'⟩
      have hlen : kvs'.length ≤ sizeLine := by
        have h1 := hp'.length
        have h2 := bumps_length tab (src.take i)
        have h3 : (src.take i).length ≤ src.length := by rw [List.length_take]; omega
        rw [sizeLine_eq]; omega
      have hb1 : bumps tab (src.take (i + 1)) = bump (bumps tab (src.take i)) ky c := by
        rw [takeSucc hqi]; unfold bumps; rw [List.foldl_append]; rfl
      have hnd : (kvs'.map (·.1)).Nodup := let ⟨_, _, _, _, _, _, h⟩ := hob'; h
      refine wpAny_execs_cons (wpAny_If (wpAny_isTrue_Compare1 (eLoc st₈ rfl (eLoc st₈ (v := .ref b) (by exact hm') (wpAny_in_of hkey hbS hDo.mapOf (wpAny_truthy_bool ?_))))))
      rcases valAt hp' ky with ⟨e1, e2⟩ | ⟨c0, t0, e1, e2⟩
      · rw [e1]
        refine wpAny_execs_cons (wpAny_Assign_Subscript (eLoc st₈ rfl (eLoc st₈ (v := .ref b) (by exact hm') (eLoc st₈ rfl (wpAny_setItem_pairs hkey hDo (fun h' hd' hs' => wpAny_execs_nil (wpAny_execs_nil ?_)) hlen)))))
        obtain ⟨ob2, ho2, hob2⟩ := Heap.dictOf_iff.1 hd'
        refine ⟨_, _, _, fun _ _ e => e, st₈.mut1 ho2 hs'.extBut, hf'.fin, hm', ob2, _, rfl, hob2, ?_⟩
        rw [hb1]; exact stored_new hp' e2
      · rw [e1]
        refine wpAny_execs_cons (wpAny_If (wpAny_isTrue_value (Call_ (eBlt st₈ (v := .builtin "isinstance") (by rfl) (by rfl) (by decide) (PyProof.Rows.callWith_builtin1 (args_cons (eLoc st₈ rfl (args_cons (eBlt st₈ (v := .type "tuple") (by rfl) (by rfl) (by decide) (args_nil (IsiPair.int_tuple (wpAny_truthy_bool ?_)))))))))))) 
        refine wpAny_execs_cons (wpAny_AugAssign_Subscript (eLoc st₈ (v := .ref b) (by exact hm') (eLoc st₈ rfl (wpAny_getItem_of hkey hDo.mapOf e1 (eLoc st₈ rfl (PySem.AutoIntOps.iadd_0 (wpAny_setItem_pairs hkey hDo (fun h' hd' hs' => wpAny_execs_nil (wpAny_execs_nil (wpAny_execs_nil ?_))) hlen)))))))
        obtain ⟨ob2, ho2, hob2⟩ := Heap.dictOf_iff.1 hd'
        refine ⟨_, _, _, fun _ _ e => e, st₈.mut1 ho2 hs'.extBut, hf'.fin, hm', ob2, _, rfl, hob2, ?_⟩
        rw [hb1]; exact stored_old hp' hnd e2
    · rintro S'' l'' m'' s₄ hS' ⟨hf', hm', ob', kvs', rfl, hob', hp'⟩ st₈
      rw [List.take_of_length_le (by rw [hq.length]; exact Nat.le_refl _)] at hp'
      refine wpAny_execs_cons (wpAny_Return_some (eLoc st₈ hm' ?_))
      exact k b _ hf' (fun b o e => st₈.keep b o (hS' b o (hS b o e))) hbS hfr ⟨kvs', Heap.dictOf_iff.2 ⟨ob', st₈.at0, hob'⟩, hp'⟩
end Mine
end

section
set_option linter.unusedVariables false
set_option maxRecDepth 100000
set_option maxHeartbeats 1000000
namespace Mine
variable {w : World} {mg mb : Str → Option Value} {B : Heap} {A : Around} {E : Value → Shared → Prop} {s : Shared} {S : Addr → Obj → Prop} {l : List (Addr × Obj)} {m : Str → Option Value} {env : Env} {M : Model}
abbrev lobj (items : List Value) (n : Nat) : Obj := { cls := .type "list", dict := none, data := .seq items.toArray n, slots := #[] }
def PL (S : Addr → Obj → Prop) (a : Addr) (items : List Value) : Prop := ∃ n, S a (lobj items n)
theorem PL.listS {a : Addr} {y : List Value} (x : PL S a y) : ListS S a y := let ⟨n, e⟩ := x; ⟨_, e, rfl, n, rfl⟩
theorem PL.mono {S' : Addr → Obj → Prop} {a : Addr} {y : List Value} (x : PL S a y) (h : ∀ b o, S b o → S' b o) : PL S' a y := let ⟨n, e⟩ := x; ⟨n, h _ _ e⟩
/-- a plain list of the heap -/
def PLh (h : Heap) (a : Addr) (items : List Value) : Prop := ∃ n, h.get? a = some (lobj items n)
theorem PL.at {L : Addr} {h : Heap} {a : Addr} {y : List Value} (x : PL S a y) (t : St w mg mb B S l L m h) : PLh h a y := let ⟨n, e⟩ := x; ⟨n, t.keep _ _ e⟩
theorem PLh.keeps {h h' : Heap} {a : Addr} {y : List Value} (x : PLh h a y) (k : Kp h h') : PLh h' a y := let ⟨n, e⟩ := x; ⟨n, k _ _ e⟩
theorem PLh.isList {h : Heap} {a : Addr} {y : List Value} (x : PLh h a y) : h.IsList a y.toArray := let ⟨n, e⟩ := x; ⟨_, e, rfl, n, rfl⟩
/-- a new list that will be changed -/
theorem mkListM {L : Addr} {vs : List Value} {Q : Value → Shared → Prop} (t : St w mg mb B S l L m s.heap)
    (h : ∀ a s', Fro s s' → St w mg mb B S ((a, lobj vs 0) :: l) L m s'.heap → Kp s.heap s'.heap → Q (.ref a) s')
    (hsz : vs.length ≤ sizeLine := by simp [sizeLine]) : wpAny M A (newList vs) Q E s :=
  wpAny_newObj_type (h _ _ ⟨_, _, rfl⟩ (t.pushM _) fun _ _ e => Heap.get?_push_of_some _ e) (by show vs.toArray.size ≤ sizeLine; rw [List.size_toArray]; exact hsz)
theorem mkListP {L : Addr} {vs : List Value} {Q : Value → Shared → Prop} (t : St w mg mb B S l L m s.heap)
    (h : ∀ a S' s', Fro s s' → (∀ b o, S b o → S' b o) → PL S' a vs → St w mg mb B S' l L m s'.heap → Kp s.heap s'.heap → Q (.ref a) s')
    (hsz : vs.length ≤ sizeLine := by simp [sizeLine]) : wpAny M A (newList vs) Q E s :=
  wpAny_newObj_type (h _ _ _ ⟨_, _, rfl⟩ add1.up ⟨_, add1.new⟩ (t.push _) fun _ _ e => Heap.get?_push_of_some _ e) (by show vs.toArray.size ≤ sizeLine; rw [List.size_toArray]; exact hsz)
theorem mkTupP {L : Addr} {vs : List Value} {Q : Value → Shared → Prop} (t : St w mg mb B S l L m s.heap)
    (h : ∀ a S' s', Fro s s' → (∀ b o, S b o → S' b o) → TupS S' a vs → St w mg mb B S' l L m s'.heap → Kp s.heap s'.heap → Q (.ref a) s')
    (hsz : vs.length ≤ sizeLine := by simp [sizeLine]) : wpAny M A (newTuple vs) Q E s :=
  wpAny_newObj_type (h _ _ _ ⟨_, _, rfl⟩ add1.up ⟨_, add1.new, rfl, _, rfl⟩ (t.push _) fun _ _ e => Heap.get?_push_of_some _ e) (by show vs.toArray.size ≤ sizeLine; rw [List.size_toArray]; exact hsz)
theorem updObj {h : Heap} {a : Addr} {xs : List Value} {n : Nat} (ha : h.get? a = some (lobj xs n)) (f : Array Value → Array Value) (ys : List Value) (hf : f xs.toArray = ys.toArray) : ∃ n', (h.update a (Obj.mapSeq f)).get? a = some (lobj ys n') := by
  refine ⟨if (f xs.toArray).size == xs.toArray.size then n else n + 1, ?_⟩
  have := IsL.update (h := h) (l := a) (items := xs.toArray) (n := n) ha f
  rw [hf] at this ⊢
  exact this
/-- D.append(x), D the first or the second of the owned -/
theorem mAppend0 {L D : Addr} {xs : List Value} {n : Nat} {pos : Pos} {a : Sem Value} {Q : Value → Shared → Prop} (t : St w mg mb B S ((D, lobj xs n) :: l) L m s.heap) (hsz : xs.length ≤ sizeLine)
    (h : wpAny (model PR w) A a (fun v s₁ => ∃ S' l' m' ys n', ys.length ≤ sizeLine ∧ St w mg mb B S' ((D, lobj ys n') :: l') L m' s₁.heap ∧ ∀ n'' s', Fro s₁ s' → St w mg mb B S' ((D, lobj (ys ++ [v]) n'') :: l') L m' s'.heap → Q .none s') E s) :
    MethodOnS PR w A E "append" (.ref D) pos [(false, a)] Q s := by
  refine ⟨"list", "list.append", PySem.F.plainAttrs_list, PySem.F.slot_list_append, PySem.F.type_list_append, ⟨_, t.at0, rfl⟩, fun b e => ⟨_, by cases e; exact t.at0, rfl⟩, P.append_list (wpAny_mono h ?_ fun _ _ e => e)⟩
  rintro v s₁ ⟨S', l', m', ys, n', hl, t', k⟩
  refine ⟨ys.toArray, n', by simpa using hl, t'.at0, ?_⟩
  obtain ⟨n'', e⟩ := updObj t'.at0 (fun xs => xs.push v) (ys ++ [v]) (by simp)
  exact k n'' _ ⟨_, _, rfl⟩ (t'.mut0 e (Heap.SameBut.update ..).extBut)
theorem mAppend1 {L D : Addr} {xs : List Value} {n : Nat} {x : Addr × Obj} {pos : Pos} {a : Sem Value} {Q : Value → Shared → Prop} (t : St w mg mb B S (x :: (D, lobj xs n) :: l) L m s.heap) (hsz : xs.length ≤ sizeLine)
    (h : wpAny (model PR w) A a (fun v s₁ => ∃ S' l' m' ys n', ys.length ≤ sizeLine ∧ St w mg mb B S' (x :: (D, lobj ys n') :: l') L m' s₁.heap ∧ ∀ n'' s', Fro s₁ s' → St w mg mb B S' (x :: (D, lobj (ys ++ [v]) n'') :: l') L m' s'.heap → Q .none s') E s) :
    MethodOnS PR w A E "append" (.ref D) pos [(false, a)] Q s := by
  refine mAppend0 t.swap2 hsz (wpAny_mono h ?_ fun _ _ e => e)
  rintro v s₁ ⟨S', l', m', ys, n', hl, t', k⟩
  exact ⟨S', x :: l', m', ys, n', hl, t'.swap2, fun n'' s' f t'' => k n'' s' f t''.swap2⟩
/-- D.extend(x) -/
theorem mExtend1 {L D : Addr} {xs : List Value} {n : Nat} {x : Addr × Obj} {pos : Pos} {a : Sem Value} {Q : Value → Shared → Prop} (t : St w mg mb B S (x :: (D, lobj xs n) :: l) L m s.heap) (hsz : xs.length ≤ sizeLine)
    (h : wpAny (model PR w) A a (fun v s₁ => ∃ b S' l' m' ys zs n', v = .ref b ∧ ys.length + zs.length ≤ 1000000 ∧ PLh s₁.heap b zs ∧ St w mg mb B S' (x :: (D, lobj ys n') :: l') L m' s₁.heap ∧ ∀ n'' s', Fro s₁ s' → St w mg mb B S' (x :: (D, lobj (ys ++ zs) n'') :: l') L m' s'.heap → Q .none s') E s) :
    MethodOnS PR w A E "extend" (.ref D) pos [(false, a)] Q s := by
  refine ⟨"list", "list.extend", PySem.F.plainAttrs_list, PySem.F.slot_list_extend, PySem.F.type_list_extend, ⟨_, t.at1, rfl⟩, fun b e => ⟨_, by cases e; exact t.at1, rfl⟩, P.extend_list (wpAny_mono h ?_ fun _ _ e => e)⟩
  rintro v s₁ ⟨b, S', l', m', ys, zs, n', rfl, hl, ⟨n2, hb⟩, t', k⟩
  refine ⟨b, ys.toArray, zs.toArray, n', n2, ?_, ?_, ?_, rfl, t'.at1, hb, ?_⟩
  · rw [sizeLine_eq]; simp; omega
  · rw [sizeLine_eq]; simp; omega
  · simp only [Builtin.List.listTooLong, List.size_toArray]
    intro q
    rw [Bool.and_eq_true] at q
    have := q.2
    simp [sizeLine_eq] at this
    omega
  obtain ⟨n'', e⟩ := updObj t'.at1 (fun xs => xs ++ zs.toArray) (ys ++ zs) (by simp)
  exact k n'' _ ⟨_, _, rfl⟩ (t'.mut1 e (Heap.SameBut.update ..).extBut)
/-- a + b of two lists -/
theorem addL {L a b : Addr} {xs ys : List Value} {Q : Value → Shared → Prop} (t : St w mg mb B S l L m s.heap) (ha : PLh s.heap a xs) (hb : PLh s.heap b ys) (hsz : xs.length + ys.length ≤ 1000000)
    (h : ∀ c S' s', Fro s s' → (∀ b o, S b o → S' b o) → PL S' c (xs ++ ys) → St w mg mb B S' l L m s'.heap → Kp s.heap s'.heap → Q (.ref c) s') :
    wpAny (model PR w) A (binaryOp .Add (.ref a) (.ref b)) Q E s := by
  obtain ⟨n1, h1⟩ := ha
  obtain ⟨n2, h2⟩ := hb
  refine P.add_list h1 h2 ?_ (by rw [sizeLine_eq]; simp; omega)
  have : ({ cls := .type "list", data := .seq (xs.toArray ++ ys.toArray) } : Obj) = lobj (xs ++ ys) 0 := by simp [lobj]
  rw [this]
  exact h _ _ _ ⟨_, _, rfl⟩ add1.up ⟨_, add1.new⟩ (t.push _) fun _ _ e => Heap.get?_push_of_some _ e
end Mine
end

section
set_option linter.unusedVariables false
set_option maxRecDepth 100000
set_option maxHeartbeats 1000000
namespace Mine
variable {w : World} {mg mb : Str → Option Value} {B : Heap} {A : Around} {E : Value → Shared → Prop} {s : Shared} {S : Addr → Obj → Prop} {l : List (Addr × Obj)} {m : Str → Option Value} {env : Env} {M : Model}
abbrev WS := List Str × Str × Nat
def signOf (c : Nat) : Str := if c = 32 then "_" else ⟨#[c]⟩
def wStep (q : WS) (c : Nat) : WS :=
  if c = 45 ∨ c = 40 then (q.1 ++ [q.2.1], "", 0) else
  if Txt.endswith (Txt.slice (q.2.1 ++ signOf c) (some q.2.2) none) "unknown" = true then (q.1, Txt.slice (q.2.1 ++ signOf c) none (some (-7)), (Txt.slice (q.2.1 ++ signOf c) none (some (-7))).length)
  else (q.1, q.2.1 ++ signOf c, q.2.2)
def wRun (l : List Nat) : WS := l.foldl wStep ([], "", 0)
def wordsL (x : Str) : List Str := (wRun x.cps.toList).1 ++ [(wRun x.cps.toList).2.1]
theorem signOf_len (c : Nat) : (signOf c).length = 1 := by unfold signOf; split <;> rfl
theorem wStep_le (q : WS) (c : Nat) (n : Nat) (h : q.1.length ≤ n ∧ q.2.1.length ≤ n) : (wStep q c).1.length ≤ n + 1 ∧ (wStep q c).2.1.length ≤ n + 1 := by
  unfold wStep
  split
  · exact ⟨by simp; exact h.1, Nat.zero_le _⟩
  · have h2 := Str.length_append q.2.1 (signOf c)
    rw [signOf_len] at h2
    split
    · have h3 := Txt.slice_le (q.2.1 ++ signOf c) none (some (-7))
      exact ⟨by show q.1.length ≤ _; omega, by show (Txt.slice _ _ _).length ≤ _; omega⟩
    · exact ⟨by show q.1.length ≤ _; omega, by show (q.2.1 ++ signOf c).length ≤ _; omega⟩
theorem wRun_le (l : List Nat) : (wRun l).1.length ≤ l.length ∧ (wRun l).2.1.length ≤ l.length := by
  have : ∀ (l : List Nat) (q : WS) (n : Nat), (q.1.length ≤ n ∧ q.2.1.length ≤ n) → (l.foldl wStep q).1.length ≤ n + l.length ∧ (l.foldl wStep q).2.1.length ≤ n + l.length := by
    intro l
    induction l with
    | nil => intro q n h; simpa using h
    | cons a r ih =>
      intro q n h
      have := ih (wStep q a) (n + 1) (wStep_le q a n h)
      simp only [List.foldl_cons, List.length_cons]
      omega
  have := this l ([], "", 0) 0 ⟨by simp, Nat.zero_le _⟩
  simpa [wRun] using this
theorem strsSnoc {vs : List Value} {ts : List Str} {x : Str} {t : Tok} (h : StrsAre vs ts) : StrsAre (vs ++ [.str x t]) (ts ++ [x]) := by
  induction h with
  | nil => exact .cons _ _ .nil
  | cons a b h ih => exact .cons _ _ ih
theorem iterStr {x : Str} {t : Tok} {Q : Value → Shared → Prop} (hA : A.handled = none)
    (hQ : ∀ (o : Obj) (Wst : Nat → Heap → Prop), o.isFreed = false → (∀ i h, Wst i h → ∃ o, h.get? s.heap.objs.size = some o) → Walks PR w A s.heap.objs.size [s.heap.objs.size] [s.heap.objs.size] x.cps.size (SignAt x) Wst → Wst 0 (s.heap.push o) →
      Q (.ref s.heap.objs.size) { s with heap := s.heap.push o }) : wpAny (model PR w) A (pyIter (.str x t)) Q E s := by
  cases ha : x.cps.all (· < 128)
  · exact wpAny_pyIter_wide ha (hQ _ _ rfl (fun i h q => ⟨_, q.choose_spec.1⟩) (Walks.strWide hA _ x t) ⟨_, Heap.get?_push_size _ rfl, rfl, rfl⟩)
  · exact wpAny_pyIter_ascii ha (hQ _ _ rfl (fun i h q => ⟨_, q.choose_spec.1⟩) (Walks.strAscii hA _ x t) ⟨_, Heap.get?_push_size _ rfl, rfl, rfl⟩)
theorem contains_dash (c : Nat) : Txt.contains "-(" ⟨#[c]⟩ = decide (c = 45 ∨ c = 40) := by
  unfold Txt.contains
  rw [StrLaws.found_one]
  apply decide_eq_decide.2
  rw [show (Str.ofString "-(").cps.toList = [45, 40] from by decide +kernel]
  simp
theorem sign_blank (c : Nat) : ((⟨#[c]⟩ : Str) == " ") = decide (c = 32) := by
  rw [strB]
  apply decide_eq_decide.2
  rw [show (Str.ofString " ") = ⟨#[32]⟩ from by decide +kernel]
  constructor
  · intro h; injection h with h; injection h with h; injection h
  · rintro rfl; rfl
theorem eSign {x : Str} {p1 p2 p3 p4 p5 p6 : Pos} {c : Nat} {t : Tok} {Q : Value → Shared → Prop} (st : St w mg mb B S l env.locals m s.heap) (hv : m x = some (.str ⟨#[c]⟩ t)) (h : ∀ t' tk, Q (.str (signOf c) t') { s with toks := tk })
    (hk : env.scope.kind = .function := by rfl) (hl : env.kindOf x = some .local := by rfl) (hd : (x == ("__debug__" : Str)) = false := by decide) :
    wpAny (model PR w) A (eval (.IfExp (.Compare (.Name x p1) [.Eq] [.Constant (.str " ") 0 p2] p3) (.Constant (.str "_") 0 p4) (.Name x p5) p6) env) Q E s := by
  refine wpAny_IfExp (wpAny_isTrue_Compare1 (eLoc st hv (wpAny_Constant_str (eq_str (wpAny_truthy_bool ?_))) hk hl hd))
  rw [sign_blank]
  by_cases e : c = 32
  · rw [decide_eq_true e]
    refine wpAny_Constant_str ?_
    have := h (s.toks + 1) (s.toks + 1 + 1)
    unfold signOf at this; rw [if_pos e] at this; exact this
  · rw [decide_eq_false e]
    refine eLoc (s := { s with toks := s.toks + 1 }) st hv ?_ hk hl hd
    have := h t (s.toks + 1)
    unfold signOf at this; rw [if_neg e] at this; exact this
theorem c_words {x : Str} {u : Tok} {Q : Value → Shared → Prop} (hA : OkA A 2) (W : Wd w mg mb B) (hB : Kp B s.heap) (hx : x.length ≤ 10000)
    (k : ∀ b vs s', Fro s s' → Kp s.heap s'.heap → StrsAre vs (wordsL x) → PLh s'.heap b vs → Q (.ref b) s') :
    wpAny (model PR w) A (call (.ref 98) [.str x u]) Q E s := by
  refine callK (n := 1) hA W hB (by rfl) (by rfl) (by rfl) (by rfl) (BindsTo.of_eq rfl) (by decide) (locs rfl) ?_
  intro s₁ f₁ st hA
  refine wpAny_execs_cons (aName W (List_ (args_nil (mkListM st fun D s₂ f₂ st₂ k₂ => ⟨_, _, _, st₂, fun s₃ f₃ st₃ => ?_⟩))))
  refine wpAny_execs_cons (aName W (wpAny_Constant_str ⟨_, _, _, st₃, fun s₄ f₄ st₄ => ?_⟩))
  refine wpAny_execs_cons (aName W (wpAny_Constant_int ⟨_, _, _, st₄, fun s₅ f₅ st₅ => ?_⟩))
  refine wpAny_execs_cons (wpAny_For (eLoc st₅ rfl (iterStr hA.hh fun o Wst hof hat Wk hst => ?_)))
  have st₆ := st₅.pushM o hof
  refine loopN Wk hat (fun i S' l' m' s' => Fro s s' ∧ m' "words" = some (.ref D) ∧ (∃ t, m' "word" = some (.str (wRun (x.cps.toList.take i)).2.1 t)) ∧ (∃ t, m' "kept" = some (.int (wRun (x.cps.toList.take i)).2.2 t)) ∧
      ∃ vs n, l' = [(D, lobj vs n)] ∧ StrsAre vs (wRun (x.cps.toList.take i)).1) (fun i S l m s s' f h => ⟨h.1.trans f, h.2⟩) (fun b hb => .inl (List.mem_singleton.1 hb)) st₆ hst
    ⟨f₁.trans (f₂.trans (f₃.trans (f₄.trans f₅.fin))), rfl, ⟨_, rfl⟩, ⟨_, rfl⟩, [], 0, rfl, .nil⟩ ?_ ?_
  · rintro i v S' l' m' o' s₆ hi ⟨c, tc, hc, rfl⟩ hS ⟨hf, hm1, ⟨t2, hm2⟩, ⟨t3, hm3⟩, vs, n, rfl, hvs⟩ st₇
    have hc' : x.cps.toList[i]? = some c := by rw [Array.getElem?_toList]; exact hc
    have hstep : wRun (x.cps.toList.take (i + 1)) = wStep (wRun (x.cps.toList.take i)) c := by rw [takeSucc hc']; unfold wRun; rw [List.foldl_append]; rfl
    have hle := wRun_le (x.cps.toList.take i)
    have htl : (x.cps.toList.take i).length ≤ 10000 := by
      rw [List.length_take, Array.length_toList]; unfold Str.length at hx; omega
    rw [hstep]
    generalize hq : wRun (x.cps.toList.take i) = q at *
    obtain ⟨ws, wd, kp⟩ := q
    dsimp only at hm2 hm3 hvs hle
    have hvl := hvs.length
    refine wpAny_execs_cons (wpAny_If (wpAny_isTrue_Compare1 (eLoc st₇ rfl (wpAny_Constant_str (SB.contains (wpAny_truthy_bool ?_))))))
    rw [contains_dash]
    by_cases hd : c = 45 ∨ c = 40
    · rw [decide_eq_true hd]
      have hws : wStep (ws, wd, kp) c = (ws ++ [wd], ("" : Str), 0) := by unfold wStep; rw [if_pos hd]
      rw [hws]
      refine wpAny_execs_cons (wpAny_Expr (Call_method1 (by rfl) (by rfl) (by rfl) (eLoc st₇ (v := .ref D) (by exact hm1) (mAppend1 st₇ (by rw [sizeLine_eq]; omega) (eLoc st₇ (v := .str wd t2) (by exact hm2)
        ⟨_, _, _, _, _, (by rw [sizeLine_eq]; omega), st₇, fun n₂ s₇ f₇ st₈ => ?_⟩)))))
      refine wpAny_execs_cons (aName W (wpAny_Constant_str ⟨_, _, _, st₈, fun s₈ f₈ st₉ => ?_⟩))
      refine wpAny_execs_cons (aName W (wpAny_Constant_int ⟨_, _, _, st₉, fun s₉ f₉ stA => wpAny_execs_nil (wpAny_execs_nil ?_)⟩))
      exact ⟨_, _, _, fun _ _ e => e, stA, hf.trans (f₇.trans (f₈.trans f₉)), hm1, ⟨_, rfl⟩, ⟨_, rfl⟩, _, _, rfl, strsSnoc hvs⟩
    · rw [decide_eq_false hd]
      have hwl := Str.length_append wd (signOf c)
      rw [signOf_len] at hwl
      refine wpAny_execs_cons (aName W (wpAny_BinOp (eLoc st₇ (v := .str wd t2) (by exact hm2) (eSign st₇ (c := c) (t := tc) (by rfl) (fun t' tk => SB.add (fun t4 k4 => ⟨_, _, _, st₇, fun s₇ f₇ st₈ => ?_⟩) (by rw [signOf_len, sizeLine_eq]; omega))))))
      refine wpAny_execs_cons (wpAny_If (wpAny_isTrue_value (Call_method1 (by rfl) (by rfl) (by rfl) (Subscript_ (eLoc st₈ rfl (wpAny_Slice (eLoc st₈ (v := .int kp t3) (by exact hm3) (wpAny_pure (wpAny_pure (slStr_sn st₈ (fun t5 s₈ f₈ st₉ => SB.endswith (wpAny_Constant_str ⟨_, _, rfl, wpAny_truthy_bool ?_⟩)) (by rw [sizeLine_eq]; omega)))))))))))
      have hws : wStep (ws, wd, kp) c = if Txt.endswith (Txt.slice (wd ++ signOf c) (some kp) none) "unknown" = true then (ws, Txt.slice (wd ++ signOf c) none (some (-7)), (Txt.slice (wd ++ signOf c) none (some (-7))).length) else (ws, wd ++ signOf c, kp) := by
        unfold wStep; rw [if_neg hd]
      rw [hws]
      by_cases he : Txt.endswith (Txt.slice (wd ++ signOf c) (some kp) none) "unknown" = true
      · rw [he]
        refine wpAny_execs_cons (aName W (Subscript_ (eLoc st₉ rfl (wpAny_Slice (wpAny_pure (UnaryOp_ (wpAny_Constant_int (P.neg_int (wpAny_pure (slStr_ns (s := { s₈ with toks := s₈.toks + 1 + 1 + 1 }) st₉ (fun t6 s₉ f₉ stA => ⟨_, _, _, stA, fun s₁₀ f₁₀ stB => ?_⟩) (by rw [sizeLine_eq]; omega)))))))))))
        have hsl := Txt.slice_le (wd ++ signOf c) none (some (-7))
        refine wpAny_execs_cons (aName W (Call_ (eBlt stB (v := .builtin "len") (by rfl) (by rfl) (by decide) (PyProof.Rows.callWith_builtin1 (args_cons (eLoc stB rfl (args_nil (P.len_str (by omega) ⟨_, _, _, stB, fun s₁₁ f₁₁ stC => wpAny_execs_nil (wpAny_execs_nil (wpAny_execs_nil ?_))⟩))))))))
        exact ⟨_, _, _, fun _ _ e => e, stC, hf.trans (f₇.trans (f₈.trans (f₉.trans (f₁₀.trans f₁₁)))), hm1, ⟨_, rfl⟩, ⟨_, rfl⟩, _, _, rfl, hvs⟩
      · rw [Bool.not_eq_true] at he
        rw [he]
        refine wpAny_execs_nil (wpAny_execs_nil (wpAny_execs_nil ?_))
        exact ⟨_, _, _, fun _ _ e => e, st₉, hf.trans (f₇.trans f₈.fin), hm1, ⟨_, rfl⟩, ⟨_, hm3⟩, _, _, rfl, hvs⟩
  · rintro S' l' m' s₆ hS ⟨hf, hm1, ⟨t2, hm2⟩, _, vs, n, rfl, hvs⟩ st₇
    rw [List.take_of_length_le (by simp)] at hm2 hvs
    have hle := wRun_le x.cps.toList
    have hvl := hvs.length
    have hxl : x.cps.toList.length ≤ 10000 := by rw [Array.length_toList]; exact hx
    refine wpAny_execs_cons (wpAny_Return_some (wpAny_BinOp (eLoc st₇ hm1 (List_ (args_cons (eLoc st₇ hm2 (args_nil (mkListP st₇ fun a S₂ s₇ f₇ hS₂ hP st₈ k₈ => ?_))))))))
    refine addL st₈ ⟨_, st₈.at0⟩ (hP.at st₈) (by simp; omega) fun b S₃ s₈ f₈ hS₃ hP₃ st₉ k₉ => ?_
    exact k b _ s₈ (hf.trans (f₇.trans f₈)) (fun b o e => k₉ _ _ (k₈ _ _ (st₇.keep _ _ (hS _ _ e)))) (strsSnoc hvs) (hP₃.at st₉)
end Mine
end

section
set_option linter.unusedVariables false
set_option maxRecDepth 100000
set_option maxHeartbeats 1000000
namespace Mine
variable {w : World} {mg mb : Str → Option Value} {B : Heap} {A : Around} {E : Value → Shared → Prop} {s : Shared} {S : Addr → Obj → Prop} {l : List (Addr × Obj)} {m : Str → Option Value} {env : Env} {M : Model}
/-- what stays while a comprehension runs -/
def Sx (h : Heap) (I : Addr) : Addr → Obj → Prop := fun b o => b ≠ I ∧ h.get? b = some o
/-- what a turn of a comprehension must do -/
structure Quiet (w : World) (mg mb : Str → Option Value) (B : Heap) (A : Around) (env : Env) (scope : Scope) (cl : List (Str × Addr)) (x : Str) (ifs : List Expr) (elt : Expr) (I : Addr) (P : Nat → Value → Prop) (p : Value → Bool) (F : Value → Value → Prop) (s₂ : Shared) : Prop where
  tests : ∀ C i v s₃ m₃ E', P i v → m₃ x = some v → St w mg mb B (Sx s₂.heap I) [] C m₃ s₃.heap →
    wpAny (model PR w) A (forIn ifs true fun c r => if r = true then do let ok ← isTrue c (compEnvC scope cl C env) (eval c (compEnvC scope cl C env)); pure (ForInStep.yield ok) else pure (ForInStep.yield r))
      (fun ok s₄ => ok = p v ∧ Keeps s₃ s₄) E' s₃
  elt : ∀ C i v s₃ m₃ E', P i v → p v = true → m₃ x = some v → St w mg mb B (Sx s₂.heap I) [] C m₃ s₃.heap →
    wpAny (model PR w) A (eval elt (compEnvC scope cl C env)) (fun y s₄ => F v y ∧ Keeps s₃ s₄) E' s₃
theorem subX {L I : Addr} {h : Heap} {o : Obj} (st : St w mg mb B S ((I, o) :: l) L m h) : ∀ b o, B.get? b = some o → Sx h I b o := fun b o' e =>
  ⟨fun q => (st.moff _ (List.mem_cons_self ..)).2 o' (q ▸ st.sub b o' e), st.base b o' e⟩
theorem Quiet.on {scope : Scope} {cl : List (Str × Addr)} {x : Str} {ifs : List Expr} {elt : Expr} {I : Addr} {P : Nat → Value → Prop} {p : Value → Bool} {F : Value → Value → Prop} {L : Addr} {o : Obj}
    (q : Quiet w mg mb B A env scope cl x ifs elt I P p F s) (st : St w mg mb B S ((I, o) :: l) L m s.heap) : QuietOnC PR w A env scope cl x ifs elt [I] P p F s := by
  have go : ∀ C (s₃ : Shared) m₃, s.heap.objs.size ≤ C → s₃.heap.Ns C m₃ → (∀ b o, b ∉ [I] → s.heap.get? b = some o → s₃.heap.get? b = some o) → St w mg mb B (Sx s.heap I) [] C m₃ s₃.heap :=
    fun C s₃ m₃ hC hn hk => ⟨st.W, hn, fun b o e => hk b o (by simpa using e.1) e.2, fun o e => absurd (Heap.lt_size e.2) (Nat.not_lt.mpr hC), subX st, fun _ h => absurd h List.not_mem_nil, fun _ h => absurd h List.not_mem_nil, List.nodup_nil⟩
  exact ⟨fun C i v s₃ m₃ E' hC hP hn hm hk _ => q.tests C i v s₃ m₃ E' hP hm (go C s₃ m₃ hC hn hk), fun C i v s₃ m₃ E' hC hP hp hn hm hk _ => q.elt C i v s₃ m₃ E' hP hp hm (go C s₃ m₃ hC hn hk)⟩
/-- St behind a comprehension -/
theorem St.comp {L I D : Addr} {h h' : Heap} {o : Obj} {ys : List Value} {n : Nat} {m' : Str → Option Value} (st : St w mg mb B S ((I, o) :: l) L m h) (hD : h.get? D = none) (hD' : h'.get? D = some (lobj ys n)) (hn : h'.Ns L m')
    (hk : ∀ b o, b ≠ L → b ≠ I → h.get? b = some o → h'.get? b = some o) : St w mg mb B (add1 S D (lobj ys n)) l L m' h' := by
  have hDL : D ≠ L := fun e => by obtain ⟨o, _, _, ho, _⟩ := st.ns; rw [← e, hD] at ho; cases ho
  have hI := st.moff _ (List.mem_cons_self ..)
  have hnI : ∀ q ∈ l, q.1 ≠ I := fun q hq e => (List.nodup_cons.1 st.nd).1 (List.mem_map.2 ⟨q, hq, e⟩)
  refine ⟨st.W, hn, fun b o e => ?_, fun o e => ?_, fun b o e => .inl (st.sub b o e), fun q hq => ?_, fun q hq => ⟨?_, fun o e => ?_⟩, (List.nodup_cons.1 st.nd).2⟩
  · rcases e with e | ⟨rfl, rfl⟩
    · exact hk b o (fun q => st.off o (q ▸ e)) (fun q => hI.2 o (q ▸ e)) (st.keep b o e)
    · exact hD'
  · rcases e with e | ⟨e, _⟩
    · exact st.off o e
    · exact hDL e.symm
  · have hq' := st.mu q (List.mem_cons_of_mem _ hq)
    exact hk _ _ (st.moff q (List.mem_cons_of_mem _ hq)).1 (hnI q hq) hq'
  · exact (st.moff q (List.mem_cons_of_mem _ hq)).1
  · rcases e with e | ⟨e, _⟩
    · exact (st.moff q (List.mem_cons_of_mem _ hq)).2 o e
    · have := st.mu q (List.mem_cons_of_mem _ hq)
      rw [e, hD] at this; cases this
/-- [elt for x in iter if ..] -/
theorem eComp {elt iter : Expr} {x : Str} {px : Pos} {ifs : List Expr} {scope : Scope} {pos : Pos} (cl : List (Str × Addr)) {Q : Value → Shared → Prop} (p : Value → Bool) (F : Value → Value → Prop)
    (hclos : closureFor scope env = pure cl) (hcell : ∀ y ∈ scope.names, y.2 ≠ .cell) (hnames : ∀ y ∈ scope.names, y.2 = .local → scope.names.lookup y.1 = some .local) (hx : scope.names.lookup x = some .local)
    (h : wpAny (model PR w) A (eval iter env) (fun xv s₁ => wpAny (model PR w) A (pyIter xv) (fun it s₂ => ∃ I fp n P Wst S l m o, it = .ref I ∧ Walks PR w A I fp [I] n P Wst ∧ n ≤ sizeLine ∧ Wst 0 s₂.heap ∧ (∀ b ∈ fp, b < s₂.heap.objs.size) ∧
      St w mg mb B S ((I, o) :: l) env.locals m s₂.heap ∧ Quiet w mg mb B A env scope cl x ifs elt I P p F s₂ ∧
      (∀ D ys (vs : List Value) S' s', vs.length = n → (∀ j v, vs[j]? = some v → P j v) → Paired F (vs.filter p) ys → Fro s₂ s' → (∀ b o, S b o → S' b o) → PL S' D ys → St w mg mb B S' l env.locals m s'.heap → Q (.ref D) s')) E s₁) E s)
    (hkind : scope.kind = .function := by rfl) (hs : ∀ x, foldedSetIterable iter env x = pure x := by intro _; rfl) :
    wpAny (model PR w) A (eval (.ListComp elt [⟨.Name x px, iter, ifs, 0⟩] scope pos) env) Q E s := by
  refine wpAny_ListComp_free p F hclos hcell hkind hnames hx (wpAny_mono h (fun xv s₁ h₁ => wpAny_mono h₁ (fun it s₂ h₂ => ?_) fun _ _ e => e) fun _ _ e => e) hs
  obtain ⟨I, fp, n, P, Wst, S, l, m, o, rfl, Wk, hn, hst, hfp, st, hq, hQ⟩ := h₂
  refine ⟨I, fp, [I], n, P, Wst, rfl, Wk, hn, hst, hfp, hq.on st, fun D h' tk ys vs hD hl hpl hlen hP hF hk => ?_⟩
  obtain ⟨k, hD'⟩ := hpl
  have hD'' : h'.get? D = some (lobj ys.toList k) := by rw [hD']
  have hI := st.moff _ (List.mem_cons_self ..)
  exact hQ D ys.toList vs _ _ hlen hP hF (Fro.mk' _ _) add1.up ⟨k, add1.new⟩ (st.comp hD hD'' (st.ns.at' fun o e => hk _ o (by simpa using fun e => hI.1 e.symm) e) fun b o _ hb e => hk b o (by simpa using hb) e)
/-- y = [elt for x in iter if ..] -/
theorem aComp {elt iter : Expr} {x y : Str} {px py : Pos} {ifs : List Expr} {scope : Scope} {pos spos : Pos} (cl : List (Str × Addr)) {Q : Flow → Shared → Prop} (p : Value → Bool) (F : Value → Value → Prop)
    (hsw : swapsWith (.ListComp elt [⟨.Name x px, iter, ifs, 0⟩] scope pos) (some (.Name y py)) spos.line env = pure true)
    (hclos : closureFor scope env = pure cl) (hcell : ∀ y ∈ scope.names, y.2 ≠ .cell) (hnames : ∀ y ∈ scope.names, y.2 = .local → scope.names.lookup y.1 = some .local) (hx : scope.names.lookup x = some .local)
    (h : wpAny (model PR w) A (eval iter env) (fun xv s₁ => wpAny (model PR w) A (pyIter xv) (fun it s₂ => ∃ I fp n P Wst S l m o, it = .ref I ∧ Walks PR w A I fp [I] n P Wst ∧ n ≤ sizeLine ∧ Wst 0 s₂.heap ∧ (∀ b ∈ fp, b < s₂.heap.objs.size) ∧
      St w mg mb B S ((I, o) :: l) env.locals m s₂.heap ∧ Quiet w mg mb B A env scope cl x ifs elt I P p F s₂ ∧
      (∀ D ys (vs : List Value) S' s', vs.length = n → (∀ j v, vs[j]? = some v → P j v) → Paired F (vs.filter p) ys → Fro s₂ s' → (∀ b o, S b o → S' b o) → PL S' D ys → St w mg mb B S' l env.locals (upd m y (.ref D)) s'.heap → Q .next s')) E s₁) E s)
    (hk : env.scope.kind = .function := by rfl) (hy : env.kindOf y = some .local := by rfl)
    (hkind : scope.kind = .function := by rfl) (hs : ∀ x, foldedSetIterable iter env x = pure x := by intro _; rfl) :
    wpAny (model PR w) A (exec (.Assign [.Name y py] (.ListComp elt [⟨.Name x px, iter, ifs, 0⟩] scope pos) spos) env) Q E s := by
  refine wpAny_Assign_ListComp_free p F hsw hclos hcell hkind hnames hx hy (by rw [hk]; rfl) (wpAny_mono h (fun xv s₁ h₁ => wpAny_mono h₁ (fun it s₂ h₂ => ?_) fun _ _ e => e) fun _ _ e => e) hs
  obtain ⟨I, fp, n, P, Wst, S, l, m, o, rfl, Wk, hn, hst, hfp, st, hq, hQ⟩ := h₂
  have hI := st.moff _ (List.mem_cons_self ..)
  refine ⟨I, fp, [I], n, P, Wst, m, rfl, Wk, hn, hst, hfp, (by simpa using fun e => hI.1 e.symm), st.ns, hq.on st, fun D h' tk ys vs hD hl hpl hlen hP hF hn' hk => ?_⟩
  obtain ⟨k, hD'⟩ := hpl
  have hD'' : h'.get? D = some (lobj ys.toList k) := by rw [hD']
  exact hQ D ys.toList vs _ _ hlen hP hF (Fro.mk' _ _) add1.up ⟨k, add1.new⟩ (st.comp hD hD'' hn' fun b o hL hb e => hk b o hL (by simpa using hb) e)
/-- the iterator of a list -/
theorem iterList {ax L : Addr} {items : List Value} {Q : Value → Shared → Prop} (hA : A.handled = none) (st : St w mg mb B S l L m s.heap) (hl : s.heap.IsList ax items.toArray)
    (h : ∀ I o s', Fro s s' → s.heap.objs.size = I → ax ≠ I → St w mg mb B S ((I, o) :: l) L m s'.heap → Walks PR w A I [I, ax] [I] items.length (fun i v => items[i]? = some v) (fun i h => h.IsListIter I ax i ∧ h.IsList ax items.toArray) → (s'.heap.IsListIter I ax 0 ∧ s'.heap.IsList ax items.toArray) →
      (∀ b ∈ [I, ax], b < s'.heap.objs.size) → Kp s.heap s'.heap → Q (.ref I) s') :
    wpAny (model PR w) A (pyIter (.ref ax)) Q E s := by
  refine wpAny_pyIter_list hl ?_
  have hlt : ax < s.heap.objs.size := let ⟨o, e, _⟩ := hl; Heap.lt_size e
  have hne : ax ≠ s.heap.objs.size := Nat.ne_of_lt hlt
  have kp : Kp s.heap (s.heap.push { cls := .type "list_iterator", data := .fields #[.ref ax, .int 0 0] }) := fun _ _ e => Heap.get?_push_of_some _ e
  have Wk := Walks.list (prog := PR) (w := w) hA s.heap.objs.size ax hne items.toArray
  refine h _ { cls := .type "list_iterator", data := .fields #[.ref ax, .int 0 0] } _ ⟨_, _, rfl⟩ rfl hne (st.pushM _) (by simpa using Wk) ⟨⟨_, Heap.get?_push_size _ rfl, rfl, rfl⟩, hl.at fun o e => kp _ _ e⟩ (fun b hb => ?_) kp
  rw [Heap.size_push]
  rcases List.mem_cons.1 hb with rfl | hb
  · exact Nat.lt_succ_self _
  · rw [List.mem_singleton.1 hb]; exact Nat.lt_succ_of_lt hlt
theorem listIterAt {I ax : Addr} {items : Array Value} : ∀ (i : Nat) (h : Heap), (h.IsListIter I ax i ∧ h.IsList ax items) → ∃ o, h.get? I = some o := fun _ _ q => ⟨_, q.1.choose_spec.1⟩
theorem keepsOf {s s' : Shared} (f : Fro s s') (k : Kp s.heap s'.heap) : Keeps s s' := by
  obtain ⟨h, tk, rfl⟩ := f
  exact ⟨h, tk, rfl, k⟩
theorem forIn1 {c : Expr} {Q : Bool → Shared → Prop} (h : wpAny M A (isTrue c env (eval c env)) Q E s) :
    wpAny M A (forIn [c] true fun c r => if r = true then do let ok ← isTrue c env (eval c env); pure (ForInStep.yield ok) else pure (ForInStep.yield r)) Q E s := by
  rw [List.forIn_cons, if_pos rfl]
  refine wpAny_bind (wpAny_bind (wpAny_mono h (fun b s₁ h₁ => wpAny_pure ?_) fun _ _ e => e))
  exact wpAny_pure h₁
theorem forIn0 {f : Expr → Bool → Sem (ForInStep Bool)} {Q : Bool → Shared → Prop} (h : Q true s) :
    wpAny M A (forIn ([] : List Expr) true f) Q E s := wpAny_pure h
end Mine
end

section
set_option linter.unusedVariables false
set_option maxRecDepth 100000
set_option maxHeartbeats 1000000
namespace Mine
variable {w : World} {mg mb : Str → Option Value} {B : Heap} {A : Around} {E : Value → Shared → Prop} {s : Shared} {S : Addr → Obj → Prop} {l : List (Addr × Obj)} {m : Str → Option Value} {env : Env} {M : Model}
def wordsAll (ts : List Str) : List Str := ts.flatMap fun (t : Str) => if t = "" ∨ t = "unknown" then [] else wordsL (Txt.strip t)
def full (ws : List Str) : List Str := ws.filter fun (x : Str) => decide (x ≠ "")
def labelL (ts : List Str) : Str := (if (wordsAll ts).head? = some "" then ("-" : Str) else "") ++ Txt.join "-" (full (wordsAll ts))
theorem strsAt {vs : List Value} {ts : List Str} (h : StrsAre vs ts) {i : Nat} {v : Value} (hv : vs[i]? = some v) : ∃ x t, ts[i]? = some x ∧ v = .str x t := by
  induction h generalizing i with
  | nil => simp at hv
  | cons y t h ih =>
    cases i with
    | zero => simp at hv; exact ⟨y, t, rfl, hv.symm⟩
    | succ i => simp at hv; simpa using ih hv
theorem strsApp {vs us : List Value} {ts rs : List Str} (h : StrsAre vs ts) (h2 : StrsAre us rs) : StrsAre (vs ++ us) (ts ++ rs) := by
  induction h with
  | nil => exact h2
  | cons y t h ih => exact .cons y t ih
theorem strsOf {vs : List Value} {ts : List Str} (h : StrsAre vs ts) : ∃ l : List (Str × Tok), strValues l = vs ∧ l.map (·.1) = ts := by
  induction h with
  | nil => exact ⟨[], rfl, rfl⟩
  | cons y t h ih =>
    obtain ⟨l, h1, h2⟩ := ih
    refine ⟨(y, t) :: l, ?_, ?_⟩
    · rw [← h1]; rfl
    · rw [← h2]; rfl
def isFull (v : Value) : Bool := match v with | .str x _ => decide (x ≠ "") | _ => false
theorem strsFull {vs : List Value} {ts : List Str} (h : StrsAre vs ts) : StrsAre (vs.filter isFull) (full ts) := by
  induction h with
  | nil => exact .nil
  | cons y t h ih =>
    unfold full
    rw [List.filter_cons, List.filter_cons]
    by_cases e : y ≠ ""
    · rw [if_pos (show isFull (.str y t) = true from decide_eq_true e), if_pos (decide_eq_true e)]; exact .cons y t ih
    · rw [if_neg (show ¬ isFull (.str y t) = true from fun q => e (of_decide_eq_true q)), if_neg (fun q => e (of_decide_eq_true q))]; exact ih
theorem pairedEq {vs ys : List Value} (h : Paired (fun v y => y = v) vs ys) : ys = vs := by
  induction h with
  | nil => rfl
  | cons h1 h2 ih => rw [h1, ih]
theorem sameItems {vs items : List Value} (hl : vs.length = items.length) (h : ∀ (j : Nat) (v : Value), vs[j]? = some v → items[j]? = some v) : vs = items := by
  apply List.ext_getElem? 
  intro i
  cases e : vs[i]? with
  | none =>
    have : vs.length ≤ i := by simpa using e
    rw [List.getElem?_eq_none (by omega)]
  | some v => rw [h i v e]
theorem wRun_all (l : List Nat) : ∀ x ∈ (wRun l).1, x.length ≤ l.length := by
  have : ∀ (l : List Nat) (q : WS) (n : Nat), ((∀ x ∈ q.1, x.length ≤ n) ∧ q.2.1.length ≤ n) → ∀ x ∈ (l.foldl wStep q).1, x.length ≤ n + l.length := by
    intro l
    induction l with
    | nil => intro q n h; simpa using h.1
    | cons a r ih =>
      intro q n h
      have hs : (∀ x ∈ (wStep q a).1, x.length ≤ n + 1) ∧ (wStep q a).2.1.length ≤ n + 1 := by
        unfold wStep
        have h2 := Str.length_append q.2.1 (signOf a)
        rw [signOf_len] at h2
        split
        · refine ⟨fun x hx => ?_, Nat.zero_le _⟩
          rcases List.mem_append.1 hx with hx | hx
          · have := h.1 x hx; omega
          · rw [List.mem_singleton.1 hx]; have := h.2; omega
        · split
          · have h3 := Txt.slice_le (q.2.1 ++ signOf a) none (some (-7))
            exact ⟨fun x hx => by have := h.1 x hx; omega, by show (Txt.slice _ _ _).length ≤ _; omega⟩
          · exact ⟨fun x hx => by have := h.1 x hx; omega, by show (q.2.1 ++ signOf a).length ≤ _; omega⟩
      have := ih (wStep q a) (n + 1) hs
      intro x hx
      have := this x hx
      simp only [List.length_cons]
      omega
  intro x hx
  simpa using this l ([], "", 0) 0 ⟨by simp, Nat.zero_le _⟩ x hx
theorem wordsL_le (x : Str) : (wordsL x).length ≤ x.length + 1 ∧ ∀ y ∈ wordsL x, y.length ≤ x.length := by
  have h1 := wRun_le x.cps.toList
  have h2 := wRun_all x.cps.toList
  have e : x.cps.toList.length = x.length := by rw [Array.length_toList]; rfl
  rw [e] at h1 h2
  unfold wordsL
  refine ⟨by simp; exact h1.1, fun y hy => ?_⟩
  rcases List.mem_append.1 hy with hy | hy
  · exact h2 y hy
  · rw [List.mem_singleton.1 hy]; exact h1.2
theorem wordsAll_le (ts : List Str) (h : ∀ t ∈ ts, t.length ≤ 1000) : (wordsAll ts).length ≤ ts.length * 1001 ∧ ∀ y ∈ wordsAll ts, y.length ≤ 1000 := by
  induction ts with
  | nil => exact ⟨by simp [wordsAll], by simp [wordsAll]⟩
  | cons a r ih =>
    have ih := ih fun t ht => h t (List.mem_cons_of_mem _ ht)
    have ha := h a (List.mem_cons_self ..)
    have hs := len_strip a
    have hw := wordsL_le (Txt.strip a)
    have e : wordsAll (a :: r) = (if a = "" ∨ a = "unknown" then [] else wordsL (Txt.strip a)) ++ wordsAll r := by simp [wordsAll]
    rw [e]
    constructor
    · rw [List.length_append, List.length_cons]
      split
      · simp; omega
      · omega
    · intro y hy
      rcases List.mem_append.1 hy with hy | hy
      · split at hy
        · cases hy
        · have := hw.2 y hy; omega
      · exact ih.2 y hy
theorem wordsAll_take {ts : List Str} {i : Nat} {t : Str} (h : ts[i]? = some t) : wordsAll (ts.take (i + 1)) = wordsAll (ts.take i) ++ (if t = "" ∨ t = "unknown" then [] else wordsL (Txt.strip t)) := by
  rw [takeSucc h]; simp [wordsAll]
def skipE (t : Str) (v : Value) : Bool := match v with | .str y _ => y == t | _ => false
theorem skipE_any (t : Str) (u u' : Tok) : (!(#[.str "" u, .str "unknown" u'] : Array Value).any (skipE t)) = decide (¬ (t = "" ∨ t = "unknown")) := by
  have : (#[.str "" u, .str "unknown" u'] : Array Value).any (skipE t) = ((("" : Str) == t) || ((("unknown" : Str) == t) || false)) := by simp [skipE]
  rw [this, strB, strB]
  by_cases h1 : t = ""
  · simp [h1]
  · by_cases h2 : t = "unknown"
    · simp [h2]
    · have h1' : ¬ (Str.ofString "" = t) := fun e => h1 e.symm
      have h2' : ¬ (Str.ofString "unknown" = t) := fun e => h2 e.symm
      simp [h1, h2, h1', h2']
theorem eHead {x : Str} {D : Addr} {us : List Value} {w0 : Str} {t0 : Tok} {p1 p2 p3 p4 p5 p6 p7 p8 : Pos} {Q : Value → Shared → Prop} (st : St w mg mb B S l env.locals m s.heap) (hv : m x = some (.ref D)) (hu : s.heap.IsList D us.toArray) (h0 : us.toArray[(0 : Int).toNat]? = some (.str w0 t0))
    (h : ∀ t' tk, Q (.str (if w0 = "" then "-" else "") t') { s with toks := tk })
    (hk : env.scope.kind = .function := by rfl) (hl : env.kindOf x = some .local := by rfl) (hd : (x == ("__debug__" : Str)) = false := by decide) :
    wpAny (model PR w) A (eval (.IfExp (.Compare (.Subscript (.Name x p1) (.Constant (.int 0) 0 p2) p3) [.Eq] [.Constant (.str "") 0 p4] p5) (.Constant (.str "-") 0 p6) (.Constant (.str "") 0 p7) p8) env) Q E s := by
  refine wpAny_IfExp (wpAny_isTrue_Compare1 (Subscript_ (eLoc st hv (wpAny_Constant_int (tail_any (ops := [.ref D, .int 0 s.toks]) (s := { s with toks := s.toks + 1 }) hu.typeIs slot_list_getitem.lookup (wpAny_getItem_list (x := .str w0 t0) hu (by decide) (by decide) h0 (wpAny_Constant_str (eq_str (wpAny_truthy_bool ?_)))) (by with_unfolding_all rfl))) hk hl hd)))
  rw [strB]
  by_cases e : w0 = ""
  · rw [decide_eq_true e]
    refine wpAny_Constant_str ?_
    have := h (s.toks + 1 + 1) (s.toks + 1 + 1 + 1)
    rw [if_pos e] at this; exact this
  · rw [decide_eq_false e]
    refine wpAny_Constant_str ?_
    have := h (s.toks + 1 + 1) (s.toks + 1 + 1 + 1)
    rw [if_neg e] at this; exact this
theorem c_label {a : Addr} {vs : List Value} {ts : List Str} {Q : Value → Shared → Prop} (hA : OkA A 4) (W : Wd w mg mb B) (hB : Kp B s.heap) (hl : PLh s.heap a vs) (hts : StrsAre vs ts) (hn : ts.length ≤ 3) (hlen : ∀ t ∈ ts, t.length ≤ 1000) (hne : wordsAll ts ≠ [])
    (k : ∀ t s', Fro s s' → Kp s.heap s'.heap → Q (.str (labelL ts) t) s') :
    wpAny (model PR w) A (call (.ref 103) [.ref a]) Q E s := by
  refine callK (n := 3) hA W hB (by rfl) (by rfl) (by rfl) (by rfl) (BindsTo.of_eq rfl) (by decide) (locs rfl) ?_
  intro s₁ f₁ st hA
  have hvl := hts.length
  refine wpAny_execs_cons (aName W (List_ (args_nil (mkListM st fun D s₂ f₂ st₂ k₂ => ⟨_, _, _, st₂, fun s₃ f₃ st₃ => ?_⟩))))
  have hPL : PL (fun b o => s.heap.get? b = some o) a vs := hl
  refine wpAny_execs_cons (wpAny_For (eLoc st₃ rfl (iterList hA.hh st₃ (hPL.at st₃).isList fun I o s₄ f₄ hI hneI st₄ Wk hst hfp k₄ => ?_)))
  refine loopN Wk listIterAt (fun i S' l' m' s' => Fro s s' ∧ m' "words" = some (.ref D) ∧ ∃ us n, l' = [(D, lobj us n)] ∧ StrsAre us (wordsAll (ts.take i))) (fun i S l m s s' f h => ⟨h.1.trans f, h.2⟩) (fun b hb => ?_) st₄ hst
    ⟨f₁.trans (f₂.trans (f₃.trans f₄)), rfl, [], 0, rfl, .nil⟩ ?_ ?_
  · rcases List.mem_cons.1 hb with rfl | hb
    · exact .inl rfl
    · rw [List.mem_singleton.1 hb]; obtain ⟨n, e⟩ := hPL; exact .inr ⟨_, e⟩
  · rintro i v S' l' m' o' s₅ hi hv hS ⟨hf, hm, us, n, rfl, hus⟩ st₅
    obtain ⟨t, tt, ht, rfl⟩ := strsAt hts hv
    have htm : t ∈ ts := List.mem_of_getElem? ht
    have htl := hlen t htm
    have hwa := wordsAll_le (ts.take i) fun t ht => hlen t (List.mem_of_mem_take ht)
    have hti : (ts.take i).length ≤ 3 := by rw [List.length_take]; omega
    have hul := hus.length
    refine wpAny_execs_cons (wpAny_If (wpAny_isTrue_Compare1 (eLoc st₅ rfl (List_ (args_cons (wpAny_Constant_str (args_cons (wpAny_Constant_str (args_nil (mkListP st₅ fun a₂ S₂ s₆ f₆ hS₂ hP₂ st₆ k₆ => ?_))))))))))
    obtain ⟨n₂, ha₂⟩ := hP₂.at st₆
    refine SeqRoads2.notIn_list (skipE t) (fun y hy => ?_) ha₂ (wpAny_truthy_bool ?_)
    · have : y = .str "" s₅.toks ∨ y = .str "unknown" (s₅.toks + 1) := by simpa using hy
      rcases this with rfl | rfl <;> exact eqGives_str _ _ _ _
    · rw [show (!([Value.str "" s₅.toks, Value.str "unknown" (s₅.toks + 1)] : List Value).toArray.any (skipE t)) = decide (¬ (t = "" ∨ t = "unknown")) from skipE_any t _ _]
      rw [wordsAll_take ht]
      by_cases hsk : t = "" ∨ t = "unknown"
      · rw [decide_eq_false (fun q => q hsk), if_pos hsk, List.append_nil]
        refine wpAny_execs_nil (wpAny_execs_nil ?_)
        exact ⟨_, _, _, hS₂, st₆, hf.trans f₆, hm, us, n, rfl, hus⟩
      · rw [decide_eq_true hsk, if_neg hsk]
        have hsl := len_strip t
        refine wpAny_execs_cons (wpAny_Expr (Call_method1 (by rfl) (by rfl) (by rfl) (eLoc st₆ (v := .ref D) (by exact hm) (mExtend1 st₆ (by rw [sizeLine_eq]; omega) (cDef st₆ (by rfl) (by rfl) (by rfl) (args_cons (Call_method0 (by rfl) (by rfl)
          (eLoc st₆ rfl (SB.strip (fun t' k' => args_nil ⟨st₆.base, c_words (hA.le (by decide)) W st₆.base (by omega) fun b ws s₇ f₇ k₇ hws hb => ?_⟩) (by rw [sizeLine_eq]; omega))))))))))
        have hwl := wordsL_le (Txt.strip t)
        have hwn := hws.length
        refine ⟨b, _, _, _, us, ws, n, rfl, by omega, hb, st₆.keeps k₇, fun n₃ s₈ f₈ st₈ => wpAny_execs_nil (wpAny_execs_nil ?_)⟩
        exact ⟨_, _, _, hS₂, st₈, hf.trans (f₆.trans (Fro.trans f₇ f₈)), hm, _, _, rfl, strsApp hus hws⟩
  · rintro S' l' m' s₅ hS ⟨hf, hm, us, n, rfl, hus⟩ st₅
    rw [List.take_of_length_le (by omega)] at hus
    have hwa := wordsAll_le ts hlen
    have hul := hus.length
    refine wpAny_execs_cons (aComp [] isFull (fun v y => y = v) (by rfl) (by rfl) (by decide) (by decide) (by decide) (eLoc st₅ hm (iterList (items := us) hA.hh st₅ ⟨_, st₅.at0, rfl, n, rfl⟩ fun I o s₆ f₆ hI hneI st₆ Wk hst hfp k₆ =>
      ⟨I, _, _, _, _, _, _, _, _, rfl, Wk, (by rw [sizeLine_eq]; omega), hst, hfp, st₆, ⟨?_, ?_⟩, fun D₂ ys vs' S₂ s₇ hvn hvP hF f₇ hS₂ hP₂ st₇ => ?_⟩)))
    · intro C i v s₇ m₇ E' hP hmx stC
      obtain ⟨x, t, hx, rfl⟩ := strsAt hus hP
      refine wpAny_tests_one (wpAny_isTrue_Compare1 (eLoc stC hmx (wpAny_Constant_str (PyProof.Rows.ne_str (wpAny_truthy_bool ⟨?_, keepsOf ⟨_, _, rfl⟩ fun _ _ e => e⟩)))))
      show (!(x == "")) = decide (x ≠ "")
      rw [strB]; simp
    · intro C i v s₇ m₇ E' hP hp hmx stC
      exact eLoc stC hmx ⟨rfl, keepsOf (Fro.refl _) fun _ _ e => e⟩
    · rw [sameItems hvn hvP] at hF
      have hys := pairedEq hF
      subst hys
      have hfu := strsFull hus
      obtain ⟨l, hl1, hl2⟩ := strsOf hfu
      have hjoin : JoinOk "-" (full (wordsAll ts)) = true := by
        unfold JoinOk
        have : Builtin.Str.tooLong ((full (wordsAll ts)).toArray.foldl (fun a p => a + p.length + Str.length "-") 0) = false := by
          refine StrLaws.joinFits (B := 1000) (fun y hy => hwa.2 y (List.mem_filter.1 hy).1) ?_
          have h1 : (full (wordsAll ts)).length ≤ (wordsAll ts).length := List.length_filter_le _ _
          have h2 : Str.length "-" = 1 := rfl
          rw [h2]; omega
        simpa using this
      obtain ⟨w0, ws', hw0⟩ : ∃ w0 r, wordsAll ts = w0 :: r := by
        cases h : wordsAll ts with
        | nil => exact absurd h hne
        | cons a r => exact ⟨a, r, rfl⟩
      have hx0 : ∃ t0, us.toArray[(0 : Int).toNat]? = some (.str w0 t0) := by
        obtain ⟨t0, e⟩ := hus.get 0 w0 (by rw [hw0]; rfl)
        exact ⟨t0, by simpa using e⟩
      obtain ⟨t0, hx0⟩ := hx0
      have hul2 : s₇.heap.IsList D us.toArray := ⟨_, st₇.at0, rfl, n, rfl⟩
      have hjl := joinOk_length hjoin
      have hlab : labelL ts = (if w0 = "" then ("-" : Str) else "") ++ Txt.join "-" (full (wordsAll ts)) := by unfold labelL; rw [hw0]; simp
      have h01 : (if w0 = ("" : Str) then ("-" : Str) else "").length ≤ 1 := by split <;> decide
      refine wpAny_execs_cons (wpAny_Return_some (wpAny_BinOp (eHead st₇ (by exact hm) hul2 hx0 fun t₁ k₁ => Call_method1 (by rfl) (by rfl) (by rfl) (wpAny_Constant_str (SB.join (eLoc (s := { s₇ with toks := k₁ + 1 }) st₇ rfl ⟨D₂, l, rfl, ?_, full (wordsAll ts), hl2, hjoin, fun t₂ k₂ => SB.add (fun t₃ k₃ => ?_) ?_⟩))))))
      · rw [hl1]; exact (hP₂.at st₇).isList
      · have := k t₃ { s₇ with toks := k₃ } (hf.trans (f₆.trans f₇.fin)) (fun b o e => st₇.keep b o (hS₂ _ _ (hS _ _ e)))
        rw [hlab] at this; exact this
      · have h2 := StrLaws.join_length_le "-" (full (wordsAll ts))
        have h3 : Txt.join "-" (full (wordsAll ts)) = Str.join "-" (full (wordsAll ts)) := StrLaws.glued_eq_join _ _
        have h4 := StrLaws.sumLen_le (B := 1000) (full (wordsAll ts)) fun y hy => hwa.2 y (List.mem_filter.1 hy).1
        have h5 : (full (wordsAll ts)).length ≤ (wordsAll ts).length := List.length_filter_le _ _
        have h6 : Str.length "-" = 1 := rfl
        rw [h6] at h2
        rw [h3, sizeLine_eq]; omega
end Mine
end

section
set_option linter.unusedVariables false
set_option maxRecDepth 100000
set_option maxHeartbeats 1000000
namespace Mine
variable {w : World} {mg mb : Str → Option Value} {B : Heap} {A : Around} {E : Value → Shared → Prop} {s : Shared} {S : Addr → Obj → Prop} {l : List (Addr × Obj)} {m : Str → Option Value} {env : Env} {M : Model}
/-- a[lo:hi] of a list -/
theorem slL {value slice : Expr} {L a : Addr} {items : List Value} {vl vu : Value} {lo hi : Option Int} {Q : Value → Shared → Prop} (st : St w mg mb B S l L m s.heap) (hl : s.heap.IsList a items.toArray) (pl : IsPart vl lo) (pu : IsPart vu hi)
    (ys : List Value) (he : slicePick items.toArray lo hi none = ys.toArray) (hsz : items.length ≤ 100000)
    (h : ∀ c S' s', Fro s s' → (∀ b o, S b o → S' b o) → PL S' c ys → St w mg mb B S' l L m s'.heap → Kp s.heap s'.heap → Q (.ref c) s')
    (hs : subscripted slice false (.ref a) (.ref s.heap.objs.size) = operate [.ref s.heap.objs.size, .ref a] (getItem (.ref a) (.ref s.heap.objs.size)) := by with_unfolding_all rfl) :
    wpAny (model PR w) A (subscriptTail value slice (.ref a) (.ref s.heap.objs.size)) Q E { s with heap := s.heap.push { cls := .type "slice", data := .fields #[vl, vu, .none] } } := by
  refine tail_any (Heap.IsList.typeIs (s := { s with heap := s.heap.push { cls := .type "slice", data := .fields #[vl, vu, .none] } }) (hl.push _)) slot_list_getitem.lookup
    (wpAny_getItem_list_slice (hl.push _) (Heap.IsSliceOf.new ..) pl pu .none (by simp) ?_ (by rw [sizeLine_eq]; simp; omega)) hs
  rw [he]
  exact h _ _ _ ⟨_, _, rfl⟩ add1.up ⟨0, add1.new⟩ ((st.pushN _).push _) fun _ _ e => Heap.get?_push_of_some _ (Heap.get?_push_of_some _ e)
theorem itemL {value slice : Expr} {a : Addr} {items : List Value} {k : Int} {u : Tok} {x : Value} {Q : Value → Shared → Prop} (hl : s.heap.IsList a items.toArray) (h0 : 0 ≤ k) (hk : k < 2 ^ 63) (hx : items[k.toNat]? = some x) (h : Q x s)
    (hs : subscripted slice false (.ref a) (.int k u) = operate [.ref a, .int k u] (getItem (.ref a) (.int k u)) := by with_unfolding_all rfl) :
    wpAny (model PR w) A (subscriptTail value slice (.ref a) (.int k u)) Q E s :=
  tail_any hl.typeIs slot_list_getitem.lookup (wpAny_getItem_list hl h0 hk (by simpa using hx) h) hs
theorem itemLast {value slice : Expr} {a : Addr} {items : List Value} {u : Tok} {x : Value} {Q : Value → Shared → Prop} (hl : s.heap.IsList a items.toArray) (hx : items.getLast? = some x) (h : Q x s)
    (hs : subscripted slice false (.ref a) (.int (-1) u) = operate [.ref a, .int (-1) u] (getItem (.ref a) (.int (-1) u)) := by with_unfolding_all rfl) :
    wpAny (model PR w) A (subscriptTail value slice (.ref a) (.int (-1) u)) Q E s := by
  have hne : items ≠ [] := fun e => by rw [e] at hx; cases hx
  have hpos : 0 < items.length := List.length_pos_iff.2 hne
  refine tail_any hl.typeIs slot_list_getitem.lookup (wpAny_getItem_list_neg hl (by decide) (by simp; omega) (by decide) ?_ h) hs
  have e : (-1 + (items.toArray.size : Int)).toNat = items.length - 1 := by simp; omega
  rw [e, List.getElem?_toArray, ← List.getLast?_eq_getElem?]
  exact hx
abbrev okc (c : Nat) : Prop := c ∉ [47, 92, 58, 59, 34, 41]
/-- a text without the signs that the law does not ask for -/
def okS (t : Str) (n : Nat) : Prop := t.length ≤ n ∧ ∀ c ∈ t.cps.toList, okc c
theorem okS.mono {t : Str} {n k : Nat} (h : okS t n) (hk : n ≤ k) : okS t k := ⟨Nat.le_trans h.1 hk, h.2⟩
theorem okS.app {a b : Str} {n k : Nat} (h : okS a n) (h2 : okS b k) : okS (a ++ b) (n + k) :=
  ⟨by rw [Str.length_append]; have := h.1; have := h2.1; omega, fun c hc => by
    rw [Str.cps_append, Array.toList_append] at hc
    rcases List.mem_append.1 hc with hc | hc
    · exact h.2 c hc
    · exact h2.2 c hc⟩
structure Bk where
  path : List Str
  line : Int
  name : Str
  count : Int
structure GoodBk (b : Bk) : Prop where
  ne : b.path ≠ []
  len : b.path.length ≤ 20
  path : ∀ p ∈ b.path, okS p 200
  lo : -20 ≤ b.line
  hi : b.line ≤ 79
  name : okS b.name 200
  c0 : 0 ≤ b.count
  c1 : b.count < 1000
/-- a booking as it lies in the heap -/
def BkS (S : Addr → Obj → Prop) (v : Value) (b : Bk) : Prop :=
  ∃ t p vs tl tn tc, v = .ref t ∧ TupS S t [.ref p, .int b.line tl, .str b.name tn, .int b.count tc] ∧ PL S p vs ∧ StrsAre vs b.path
theorem BkS.mono {S' : Addr → Obj → Prop} {v : Value} {b : Bk} (x : BkS S v b) (h : ∀ b o, S b o → S' b o) : BkS S' v b :=
  let ⟨t, p, vs, tl, tn, tc, e, h1, h2, h3⟩ := x; ⟨t, p, vs, tl, tn, tc, e, h1.mono h, h2.mono h, h3⟩
/-- what the loop knows of path, line and name -/
structure Cur (S : Addr → Obj → Prop) (m : Str → Option Value) (n : Nat) : Prop where
  path : ∃ p vs ps, m "path" = some (.ref p) ∧ PL S p vs ∧ StrsAre vs ps ∧ ps ≠ [] ∧ ps.length ≤ 2 + n ∧ ∀ q ∈ ps, okS q (7 + 7 * n)
  line : ∃ z t, m "line" = some (.int z t) ∧ -20 ≤ z ∧ z ≤ 79
  name : ∃ y t, m "name" = some (.str y t) ∧ okS y (7 + 7 * n)
theorem Cur.mono {S' : Addr → Obj → Prop} {n k : Nat} (x : Cur S m n) (h : ∀ b o, S b o → S' b o) (hk : n ≤ k) : Cur S' m k := by
  obtain ⟨p, vs, ps, h1, h2, h3, h4, h5, h6⟩ := x.path
  obtain ⟨y, t, h7, h8⟩ := x.name
  exact ⟨⟨p, vs, ps, h1, h2.mono h, h3, h4, by omega, fun q hq => (h6 q hq).mono (by omega)⟩, x.line, ⟨y, t, h7, h8.mono (by omega)⟩⟩
theorem strsDropLast {vs : List Value} {ts : List Str} (h : StrsAre vs ts) (k : Nat) : StrsAre (vs.take k) (ts.take k) := by
  induction h generalizing k with
  | nil => simpa using StrsAre.nil
  | cons y t h ih => cases k with
    | zero => exact .nil
    | succ k => exact .cons y t (ih k)
theorem strsDrop {vs : List Value} {ts : List Str} (h : StrsAre vs ts) (k : Nat) : StrsAre (vs.drop k) (ts.drop k) := by
  induction h generalizing k with
  | nil => simpa using StrsAre.nil
  | cons y t h ih => cases k with
    | zero => exact .cons y t h
    | succ k => exact ih k
theorem strsLast {vs : List Value} {ts : List Str} (h : StrsAre vs ts) (hne : ts ≠ []) : ∃ x t, ts.getLast? = some x ∧ vs.getLast? = some (.str x t) := by
  have hl := h.length
  have hp := List.length_pos_iff.2 hne
  rw [List.getLast?_eq_getElem?, List.getLast?_eq_getElem?, hl]
  have e : ts[ts.length - 1]? = some (ts[ts.length - 1]'(by omega)) := List.getElem?_eq_getElem (by omega)
  obtain ⟨t, ht⟩ := h.get _ _ e
  exact ⟨_, t, e, ht⟩
theorem execs1 {st : Stmt} {P : Shared → Prop} (h : wpAny M A (exec st env) (fun f s' => f = .next ∧ P s') E s) : wpAny M A (execs [st] env) (fun f s' => f = .next ∧ P s') E s :=
  wpAny_execs_cons (wpAny_mono h (fun f s' ⟨e, p⟩ => by subst e; exact wpAny_execs_nil ⟨rfl, p⟩) fun _ _ e => e)
theorem ifKind {kd j : Int} {td : Tok} {p1 p2 p3 pos : Pos} {body orelse : List Stmt} {Q : Flow → Shared → Prop} (st : St w mg mb B S l env.locals m s.heap) (hv : m "kind" = some (.int kd td))
    (hT : kd = j → ∀ s', Fro s s' → St w mg mb B S l env.locals m s'.heap → wpAny (model PR w) A (execs body env) Q E s')
    (hF : kd ≠ j → ∀ s', Fro s s' → St w mg mb B S l env.locals m s'.heap → wpAny (model PR w) A (execs orelse env) Q E s')
    (hk : env.scope.kind = .function := by rfl) (hl : env.kindOf "kind" = some .local := by rfl) :
    wpAny (model PR w) A (exec (.If (.Compare (.Name "kind" p1) [.Eq] [.Constant (.int j) 0 p2] p3) body orelse pos) env) Q E s := by
  refine wpAny_If (wpAny_isTrue_Compare1 (eLoc st hv (wpAny_Constant_int (P.eq_int (wpAny_truthy_bool ?_))) hk hl (by decide)))
  by_cases e : kd = j
  · rw [show (kd == j) = true from beq_iff_eq.2 e]; exact hT e _ ⟨_, _, rfl⟩ st
  · rw [show (kd == j) = false from beq_eq_false_iff_ne.2 e]; exact hF e _ ⟨_, _, rfl⟩ st
theorem fm8 (x : Int) : 0 ≤ x.fmod 8 ∧ x.fmod 8 < 8 := ⟨Int.fmod_nonneg_of_pos _ (by decide), Int.fmod_lt_of_pos _ (by decide)⟩
theorem menu {t0 t1 t2 t3 t4 t5 t6 t7 : Tok} (j : Int) (h0 : 0 ≤ j) (h1 : j < 8) : ∃ y t, ([.str "unknown" t0, .str "" t1, .str "un" t2, .str "known" t3, .str "-" t4, .str " " t5, .str "(" t6, .str "a" t7] : List Value)[j.toNat]? = some (.str y t) ∧ okS y 7 := by
  have : j = 0 ∨ j = 1 ∨ j = 2 ∨ j = 3 ∨ j = 4 ∨ j = 5 ∨ j = 6 ∨ j = 7 := by omega
  rcases this with rfl | rfl | rfl | rfl | rfl | rfl | rfl | rfl <;> exact ⟨_, _, rfl, by decide +kernel, by decide +kernel⟩
end Mine
end

section
set_option linter.unusedVariables false
set_option maxRecDepth 100000
set_option maxHeartbeats 2000000
namespace Mine
variable {w : World} {mg mb : Str → Option Value} {B : Heap} {A : Around} {E : Value → Shared → Prop} {s : Shared} {S : Addr → Obj → Prop} {l : List (Addr × Obj)} {m : Str → Option Value} {env : Env} {M : Model}
theorem lenL {vs : List Value} {ts : List Str} {n : Nat} (h : StrsAre vs ts) (hn : ts.length ≤ n) : vs.length ≤ n := by rw [h.length]; exact hn
theorem partInt {i : Int} {k : Nat} {pos : Pos} {Q : Value → Shared → Prop} (h : wpAny M A (eval (.Constant (.int i) k pos) env) Q E s) : wpAny M A (evalPart (some (.Constant (.int i) k pos)) env) Q E s := h
section
variable {x : Str} {p1 p2 p3 p4 p5 : Pos} {p : Addr} {pv : List Value}
/-- x[:-1] -/
theorem eInit {Q : Value → Shared → Prop} (st : St w mg mb B S l env.locals m s.heap) (hv : m x = some (.ref p)) (hP : PL S p pv) (hsz : pv.length ≤ 1000)
    (h : ∀ c S' s', Fro s s' → (∀ b o, S b o → S' b o) → PL S' c (pv.take (pv.length - 1)) → St w mg mb B S' l env.locals m s'.heap → Q (.ref c) s')
    (hk : env.scope.kind = .function := by rfl) (hl : env.kindOf x = some .local := by rfl) (hd : (x == ("__debug__" : Str)) = false := by decide) :
    wpAny (model PR w) A (eval (.Subscript (.Name x p1) (.Slice none (some (.UnaryOp .USub (.Constant (.int 1) 0 p2) p3)) none p4) p5) env) Q E s := by
  refine Subscript_ (eLoc st hv ?_ hk hl hd)
  refine wpAny_Slice (wpAny_pure (UnaryOp_ (wpAny_Constant_int (P.neg_int (wpAny_pure ?_)))))
  exact slL (s := { s with toks := s.toks + 1 + 1 }) st (hP.at st).isList .none (.int (-1) _) (pv.take (pv.length - 1)) (by simpa using slicePick_butLast pv.toArray 1 (by decide)) (by omega) fun c S' s' f hS hP' st' _ => h c S' s' (Fro.trans ⟨_, _, rfl⟩ f) hS hP' st'
/-- x[1:] -/
theorem eTail {Q : Value → Shared → Prop} (st : St w mg mb B S l env.locals m s.heap) (hv : m x = some (.ref p)) (hP : PL S p pv) (hsz : pv.length ≤ 1000)
    (h : ∀ c S' s', Fro s s' → (∀ b o, S b o → S' b o) → PL S' c (pv.drop 1) → St w mg mb B S' l env.locals m s'.heap → Q (.ref c) s')
    (hk : env.scope.kind = .function := by rfl) (hl : env.kindOf x = some .local := by rfl) (hd : (x == ("__debug__" : Str)) = false := by decide) :
    wpAny (model PR w) A (eval (.Subscript (.Name x p1) (.Slice (some (.Constant (.int 1) 0 p2)) none none p4) p5) env) Q E s := by
  refine Subscript_ (eLoc st hv ?_ hk hl hd)
  refine wpAny_Slice (partInt (wpAny_Constant_int (wpAny_pure (wpAny_pure ?_))))
  exact slL (s := { s with toks := s.toks + 1 }) st (hP.at st).isList (.int 1 _) .none (pv.drop 1) (by simpa using slicePick_from' pv.toArray 1) (by omega) fun c S' s' f hS hP' st' _ => h c S' s' (Fro.trans ⟨_, _, rfl⟩ f) hS hP' st'
/-- x[-1] -/
theorem eLast {v : Value} {Q : Value → Shared → Prop} (st : St w mg mb B S l env.locals m s.heap) (hv : m x = some (.ref p)) (hP : PLh s.heap p pv) (hx : pv.getLast? = some v)
    (h : ∀ tk, Q v { s with toks := tk })
    (hk : env.scope.kind = .function := by rfl) (hl : env.kindOf x = some .local := by rfl) (hd : (x == ("__debug__" : Str)) = false := by decide) :
    wpAny (model PR w) A (eval (.Subscript (.Name x p1) (.UnaryOp .USub (.Constant (.int 1) 0 p2) p3) p5) env) Q E s := by
  refine Subscript_ (eLoc st hv ?_ hk hl hd)
  refine UnaryOp_ (wpAny_Constant_int (P.neg_int ?_))
  exact itemLast (s := { s with toks := s.toks + 1 + 1 }) hP.isList hx (h _)
/-- x[j] -/
theorem eItem {v : Value} {j : Int} {Q : Value → Shared → Prop} (st : St w mg mb B S l env.locals m s.heap) (hv : m x = some (.ref p)) (hP : PLh s.heap p pv) (h0 : 0 ≤ j) (h1 : j < 2 ^ 63) (hx : pv[j.toNat]? = some v)
    (h : ∀ tk, Q v { s with toks := tk })
    (hk : env.scope.kind = .function := by rfl) (hl : env.kindOf x = some .local := by rfl) (hd : (x == ("__debug__" : Str)) = false := by decide) :
    wpAny (model PR w) A (eval (.Subscript (.Name x p1) (.Constant (.int j) 0 p2) p5) env) Q E s := by
  refine Subscript_ (eLoc st hv ?_ hk hl hd)
  refine wpAny_Constant_int ?_
  exact itemL (s := { s with toks := s.toks + 1 }) hP.isList h0 h1 hx (h _)
end
theorem cur0 {p : Addr} {t t' t1 t2 : Tok} (hp : m "path" = some (.ref p)) (hP : PL S p [.str "usr" t1, .str "a b.py" t2]) (hl : m "line" = some (.int 3 t)) (hn : m "name" = some (.str "f" t')) : Cur S m 0 :=
  ⟨⟨p, _, ["usr", "a b.py"], hp, hP, .cons _ _ (.cons _ _ .nil), by simp, by simp, fun q hq => by
      have : q = "usr" ∨ q = "a b.py" := by simpa using hq
      rcases this with rfl | rfl <;> exact ⟨by decide +kernel, by decide +kernel⟩⟩, ⟨3, _, hl, by decide, by decide⟩, ⟨"f", _, hn, by decide +kernel, by decide +kernel⟩⟩
theorem intsAt {vs : List Value} {ns : List Int} (h : IntsAre vs ns) {i : Nat} {v : Value} (hv : vs[i]? = some v) : ∃ x t, v = .int x t := by
  induction h generalizing i with
  | nil => simp at hv
  | cons y t h ih => cases i with
    | zero => simp at hv; exact ⟨y, t, hv.symm⟩
    | succ i => simp at hv; exact ih hv
theorem c_bookings {a : Addr} {vs : List Value} {ns : List Int} {Q : Value → Shared → Prop} (hA : OkA A 3) (W : Wd w mg mb B) (hB : Kp B s.heap) (hl : s.heap.IsList a vs.toArray) (hi : IntsAre vs ns) (hlen : ns.length ≤ 63)
    (k : ∀ b us bs s', Fro s s' → Kp s.heap s'.heap → PLh s'.heap b us → bs.length ≤ 13 → Paired (BkS fun b o => s'.heap.get? b = some o) us bs → (∀ b ∈ bs, GoodBk b) → Q (.ref b) s') :
    wpAny (model PR w) A (call (.ref 91) [.ref a]) Q E s := by
  refine callK (n := 2) hA W hB (by rfl) (by rfl) (by rfl) (by rfl) (BindsTo.of_eq rfl) (by decide) (locs rfl) ?_
  intro s₁ f₁ st hA
  have hvl := hi.length
  have hL : ListS (fun b o => s.heap.get? b = some o) a vs := hl
  refine wpAny_execs_cons (aName W (List_ (args_cons (wpAny_Constant_str (args_cons (wpAny_Constant_str (args_nil (mkListP st fun p S₂ s₂ f₂ hS₂ hP₂ st₂ k₂ => ⟨_, _, _, st₂, fun s₃ f₃ st₃ => ?_⟩))))))))
  refine wpAny_execs_cons (aName W (wpAny_Constant_int ⟨_, _, _, st₃, fun s₄ f₄ st₄ => ?_⟩))
  refine wpAny_execs_cons (aName W (wpAny_Constant_str ⟨_, _, _, st₄, fun s₅ f₅ st₅ => ?_⟩))
  refine wpAny_execs_cons (aName W (List_ (args_nil (mkListM st₅ fun D s₆ f₆ st₆ k₆ => ⟨_, _, _, st₆, fun s₇ f₇ st₇ => ?_⟩))))
  refine wpAny_execs_cons (wpAny_For (wpAny_BinOp (List_ (args_cons (wpAny_Constant_int (args_nil (mkListP st₇ fun e₁ S₃ s₈ f₈ hS₃ hP₃ st₈ k₈ => ?_)))))))
  refine Subscript_ (eLoc st₈ rfl (wpAny_Slice (wpAny_pure (partInt (wpAny_Constant_int (wpAny_pure (slL (s := { s₈ with toks := s₈.toks + 1 }) st₈ ((hL.mono fun b o e => hS₃ _ _ (hS₂ _ _ e)).at st₈) .none (.int 12 _) (vs.take 12) (by simpa using slicePick_upto' vs.toArray 12) (by omega) fun e₂ S₄ s₉ f₉ hS₄ hP₄ st₉ k₉ => ?_)))))))
  refine addL st₉ ((hP₃.mono hS₄).at st₉) (hP₄.at st₉) (by simp; omega) fun e₃ S₅ sA fA hS₅ hP₅ stA kA => ?_
  refine iterList hA.hh stA (hP₅.at stA).isList fun I o sB fB hI hneI stB Wk hst hfp kB => ?_
  have hitems : ∀ (i : Nat) (v : Value), ([.int 7 s₇.toks] ++ vs.take 12 : List Value)[i]? = some v → ∃ x t, v = .int x t := fun i v hv => intsAt (IntsAre.cons 7 s₇.toks (hi.take 12)) hv
  refine loopN Wk listIterAt (fun i S' l' m' s' => Fro s s' ∧ m' "bookings" = some (.ref D) ∧ Cur S' m' i ∧ ∃ (us : List Value) (bs : List Bk) (n : Nat), l' = [(D, lobj us n)] ∧ bs.length = i ∧ Paired (BkS S') us bs ∧ ∀ b ∈ bs, GoodBk b) (fun i S l m s s' f h => ⟨h.1.trans f, h.2⟩) (fun b hb => ?_) stB hst
    ⟨f₁.trans (f₂.fin.trans (f₃.trans (f₄.trans (f₅.trans (f₆.trans (f₇.trans (f₈.trans (f₉.trans (fA.trans fB))))))))), rfl, (cur0 (p := p) rfl hP₂ rfl rfl).mono (fun b o e => hS₅ _ _ (hS₄ _ _ (hS₃ _ _ e))) (Nat.le_refl _), [], [], 0, rfl, rfl, .nil, by simp⟩ ?_ ?_
  · rcases List.mem_cons.1 hb with rfl | hb
    · exact .inl rfl
    · rw [List.mem_singleton.1 hb]; obtain ⟨n, e⟩ := hP₅; exact .inr ⟨_, e⟩
  · rintro i v S' l' m' o' sC hi' hv hS ⟨hf, hmb, hcur, us, bs, n, rfl, hbl, hbs, hgood⟩ stC
    obtain ⟨x, tx, rfl⟩ := hitems i v hv
    have hi13 : i < 13 := by
      have : ([Value.int 7 s₇.toks] ++ vs.take 12).length ≤ 13 := by simp; omega
      omega
    have hul := hbs.length
    refine wpAny_execs_cons (aName W (wpAny_BinOp (eLoc stC rfl (wpAny_Constant_int (PyProof.Rows.mod_int' (by decide) ⟨_, _, _, stC, fun sD fD stD => ?_⟩)))))
    refine wpAny_execs_cons (aName W (wpAny_BinOp (eLoc stD rfl (wpAny_Constant_int (floordiv_int (by decide) ⟨_, _, _, stD, fun sE fE stE => ?_⟩ (.inl (by with_unfolding_all rfl)))))))
    obtain ⟨hr0, hr1⟩ := fm8 (x.fdiv 8)
    refine wpAny_execs_cons (aName W (Subscript_ (List_ ?_)))
    refine args_cons (wpAny_Constant_str ?_)
    refine args_cons (wpAny_Constant_str ?_)
    refine args_cons (wpAny_Constant_str ?_)
    refine args_cons (wpAny_Constant_str ?_)
    refine args_cons (wpAny_Constant_str ?_)
    refine args_cons (wpAny_Constant_str ?_)
    refine args_cons (wpAny_Constant_str ?_)
    refine args_cons (wpAny_Constant_str ?_)
    refine args_nil (mkListP stE fun em S₆ sF fF hS₆ hP₆ stF kF => ?_)
    obtain ⟨y, ty, hy, hoky⟩ := menu (t0 := sE.toks) (t1 := sE.toks + 1) (t2 := sE.toks + 1 + 1) (t3 := sE.toks + 1 + 1 + 1) (t4 := sE.toks + 1 + 1 + 1 + 1) (t5 := sE.toks + 1 + 1 + 1 + 1 + 1) (t6 := sE.toks + 1 + 1 + 1 + 1 + 1 + 1) (t7 := sE.toks + 1 + 1 + 1 + 1 + 1 + 1 + 1) ((x.fdiv 8).fmod 8) hr0 hr1
    refine wpAny_BinOp (eLoc stF rfl (wpAny_Constant_int (PyProof.Rows.mod_int' (by decide) (itemL (s := { sF with toks := sF.toks + 1 + 1 }) (hP₆.at stF).isList hr0 (by omega) hy ⟨_, _, _, stF, fun sG fG stG => ?_⟩))))
    obtain ⟨hk0, hk1⟩ := fm8 x
    have fG' := hf.trans (fD.trans (fE.trans (fF.trans fG)))
    have hcur' := hcur.mono hS₆ (Nat.le_refl i)
    have hbs' := Paired.mono (fun a b (h : BkS S' a b) => h.mono hS₆) hbs
    obtain ⟨⟨p₁, pv, ps, hp1, hp2, hp3, hp4, hp5, hp6⟩, ⟨z, tz, hz1, hz2, hz3⟩, ⟨nm, tn, hn1, hn2⟩⟩ := hcur'
    have hpl := hp3.length
    have htext : okS y 7 := hoky
    refine wpAny_execs_cons (wpAny_mono (Q := fun f s' => f = .next ∧ ∃ S'' m'', (∀ b o, S₆ b o → S'' b o) ∧ St w mg mb B S'' ((I, o') :: [(D, lobj us n)]) s.heap.objs.size m'' s'.heap ∧ Fro s s' ∧ m'' "bookings" = some (.ref D) ∧ m'' "x" = some (.int x tx) ∧ Cur S'' m'' (i + 1)) (E := fun _ _ => False) ?_ ?_ (fun _ _ e => e.elim))
    · have hpt : okS y (7 + 7 * (i + 1)) := htext.mono (by omega)
      have hps : ∀ q ∈ ps, okS q (7 + 7 * (i + 1)) := fun q hq => (hp6 q hq).mono (by omega)
      have line' : ∃ z t, m' "line" = some (.int z t) ∧ -20 ≤ z ∧ z ≤ 79 := ⟨z, tz, hz1, hz2, hz3⟩
      have name' : ∃ y t, m' "name" = some (.str y t) ∧ okS y (7 + 7 * (i + 1)) := ⟨nm, tn, hn1, hn2.mono (by omega)⟩
      have path' : ∃ p vs ps, m' "path" = some (.ref p) ∧ PL S₆ p vs ∧ StrsAre vs ps ∧ ps ≠ [] ∧ ps.length ≤ 2 + (i + 1) ∧ ∀ q ∈ ps, okS q (7 + 7 * (i + 1)) := ⟨p₁, pv, ps, hp1, hp2, hp3, hp4, by omega, hps⟩
      refine ifKind stG (by rfl) (fun e sH fH stH => execs1 ?_) fun ne0 sH fH stH => execs1 ?_
      · -- path + [text]
        refine aName W (wpAny_BinOp (eLoc stH (v := .ref p₁) (by exact hp1) (List_ (args_cons (eLoc stH rfl (args_nil (mkListP stH fun a₂ S₇ sI fI hS₇ hP₇ stI kI => ?_)))))))
        refine addL stI ((hp2.mono hS₇).at stI) (hP₇.at stI) (by simp; omega) fun c S₈ sJ fJ hS₈ hP₈ stJ kJ => ⟨_, _, _, stJ, fun sK fK stK => ⟨rfl, S₈, _, fun b o e => hS₈ _ _ (hS₇ _ _ e), stK, fG'.trans (fH.trans (fI.trans (fJ.trans fK))), hmb, rfl, ?_⟩⟩
        refine ⟨⟨c, _, ps ++ [y], rfl, hP₈, strsSnoc hp3, by simp, by simp; omega, fun q hq => ?_⟩, line', name'⟩
        rcases List.mem_append.1 hq with hq | hq
        · exact hps q hq
        · rw [List.mem_singleton.1 hq]; exact hpt
      · refine ifKind stH (by rfl) (fun e sI fI stI => execs1 ?_) fun ne1 sI fI stI => execs1 ?_
        · -- path[:-1] + [path[-1] + text]
          obtain ⟨lx, tl, hl1, hl2⟩ := strsLast hp3 hp4
          have hlx := hp6 lx (List.mem_of_getLast? hl1)
          refine aName W (wpAny_BinOp (eInit stI (by exact hp1) hp2 (by omega) fun c₁ S₇ sJ fJ hS₇ hP₇ stJ => ?_))
          refine List_ (args_cons (wpAny_BinOp (eLast stJ (by exact hp1) ((hp2.mono hS₇).at stJ) hl2 fun tk => ?_)))
          refine eLoc (s := { sJ with toks := tk }) stJ (v := .str y ty) (by rfl) (SB.add (fun t₂ k₂ => ?_) (by have := hlx.1; have := htext.1; rw [sizeLine_eq]; omega))
          refine args_nil (mkListP (s := { sJ with toks := k₂ }) stJ fun a₂ S₈ sK fK hS₈ hP₈ stK kK => ?_)
          refine addL stK ((hP₇.mono hS₈).at stK) (hP₈.at stK) (by simp; omega) fun c S₉ sL fL hS₉ hP₉ stL kL => ⟨_, _, _, stL, fun sM fM stM => ⟨rfl, S₉, _, fun b o e => hS₉ _ _ (hS₈ _ _ (hS₇ _ _ e)), stM, fG'.trans (fH.trans (fI.trans (fJ.trans (Fro.trans fK (fL.trans fM))))), hmb, rfl, ?_⟩⟩
          refine ⟨⟨c, _, ps.take (pv.length - 1) ++ [lx ++ y], rfl, hP₉, strsSnoc (strsDropLast hp3 _), by simp, by simp; omega, fun q hq => ?_⟩, line', name'⟩
          rcases List.mem_append.1 hq with hq | hq
          · exact hps q (List.mem_of_mem_take hq)
          · rw [List.mem_singleton.1 hq]; exact (hlx.app htext).mono (by omega)
        · refine ifKind stI (by rfl) (fun e sJ fJ stJ => execs1 ?_) fun ne2 sJ fJ stJ => execs1 ?_
          · -- path[:-1] + [text]
            refine aName W (wpAny_BinOp (eInit stJ (by exact hp1) hp2 (by omega) fun c₁ S₇ sK fK hS₇ hP₇ stK => ?_))
            refine List_ (args_cons (eLoc stK (v := .str y ty) (by rfl) (args_nil (mkListP stK fun a₂ S₈ sL fL hS₈ hP₈ stL kL => ?_))))
            refine addL stL ((hP₇.mono hS₈).at stL) (hP₈.at stL) (by simp; omega) fun c S₉ sM fM hS₉ hP₉ stM kM => ⟨_, _, _, stM, fun sN fN stN => ⟨rfl, S₉, _, fun b o e => hS₉ _ _ (hS₈ _ _ (hS₇ _ _ e)), stN, fG'.trans (fH.trans (fI.trans (fJ.trans (fK.trans (fL.trans (fM.trans fN)))))), hmb, rfl, ?_⟩⟩
            refine ⟨⟨c, _, ps.take (pv.length - 1) ++ [y], rfl, hP₉, strsSnoc (strsDropLast hp3 _), by simp, by simp; omega, fun q hq => ?_⟩, line', name'⟩
            rcases List.mem_append.1 hq with hq | hq
            · exact hps q (List.mem_of_mem_take hq)
            · rw [List.mem_singleton.1 hq]; exact hpt
          · refine ifKind stJ (by rfl) (fun e sK fK stK => execs1 ?_) fun ne3 sK fK stK => execs1 ?_
            · -- [path[0] + text] + path[1:]
              have hpos := List.length_pos_iff.2 hp4
              obtain ⟨t00, h00⟩ := hp3.get 0 _ (List.getElem?_eq_getElem hpos)
              have h0ok := hp6 _ (List.getElem_mem hpos)
              refine aName W (wpAny_BinOp (List_ (args_cons (wpAny_BinOp (eItem stK (by exact hp1) (hp2.at stK) (by decide) (by decide) h00 fun tk => ?_)))))
              refine eLoc (s := { sK with toks := tk }) stK (v := .str y ty) (by rfl) (SB.add (fun t₂ k₂ => ?_) (by have := h0ok.1; have := htext.1; rw [sizeLine_eq]; omega))
              refine args_nil (mkListP (s := { sK with toks := k₂ }) stK fun a₂ S₇ sL fL hS₇ hP₇ stL kL => ?_)
              refine eTail stL (by exact hp1) (hp2.mono hS₇) (by omega) fun c₁ S₈ sM fM hS₈ hP₈ stM => ?_
              refine addL stM ((hP₇.mono hS₈).at stM) (hP₈.at stM) (by simp; omega) fun c S₉ sN fN hS₉ hP₉ stN kN => ⟨_, _, _, stN, fun sO fO stO => ⟨rfl, S₉, _, fun b o e => hS₉ _ _ (hS₈ _ _ (hS₇ _ _ e)), stO, fG'.trans (fH.trans (fI.trans (fJ.trans (fK.trans (Fro.trans fL (fM.trans (fN.trans fO))))))), hmb, rfl, ?_⟩⟩
              refine ⟨⟨c, _, (ps[0] ++ y) :: ps.drop 1, rfl, hP₉, .cons _ _ (strsDrop hp3 1), by simp, by simp; omega, fun q hq => ?_⟩, line', name'⟩
              rcases List.mem_cons.1 hq with hq | hq
              · rw [hq]; exact (h0ok.app htext).mono (by omega)
              · exact hps q (List.mem_of_mem_drop hq)
            · refine ifKind stK (by rfl) (fun e sL fL stL => execs1 ?_) fun ne4 sL fL stL => execs1 ?_
              · -- line
                have hz := Int.fmod_nonneg_of_pos (x.fdiv 8) (b := 100) (by decide)
                have hz' := Int.fmod_lt_of_pos (x.fdiv 8) (b := 100) (by decide)
                refine aName W (wpAny_BinOp (wpAny_BinOp (eLoc stL (v := .int (x.fdiv 8) _) (by rfl) (wpAny_Constant_int (PyProof.Rows.mod_int' (by decide) (wpAny_Constant_int (P.sub_int ⟨_, _, _, stL, fun sM fM stM => ⟨rfl, S₆, _, fun b o e => e, stM, fG'.trans (fH.trans (fI.trans (fJ.trans (fK.trans (fL.trans fM))))), hmb, rfl, path', ⟨_, _, rfl, by omega, by omega⟩, name'⟩⟩)))))))
              · refine ifKind stL (by rfl) (fun e sM fM stM => execs1 ?_) fun ne5 sM fM stM => execs1 ?_
                · refine aName W (eLoc stM (v := .str y ty) (by rfl) ⟨_, _, _, stM, fun sN fN stN => ⟨rfl, S₆, _, fun b o e => e, stN, fG'.trans (fH.trans (fI.trans (fJ.trans (fK.trans (fL.trans (fM.trans fN)))))), hmb, rfl, path', line', ⟨_, _, rfl, hpt⟩⟩⟩)
                · refine ifKind stM (by rfl) (fun e sN fN stN => execs1 ?_) fun ne6 sN fN stN => ?_
                  · refine aName W (wpAny_BinOp (eLoc stN (v := .str nm tn) (by exact hn1) (eLoc stN (v := .str y ty) (by rfl) (SB.add (fun t₂ k₂ => ⟨_, _, _, stN, fun sO fO stO => ⟨rfl, S₆, _, fun b o e => e, stO, fG'.trans (fH.trans (fI.trans (fJ.trans (fK.trans (fL.trans (fM.trans (fN.trans fO))))))), hmb, rfl, path', line', ⟨_, _, rfl, (hn2.app htext).mono (by omega)⟩⟩⟩) (by have := hn2.1; have := htext.1; rw [sizeLine_eq]; omega)))))
                  · exact wpAny_execs_nil ⟨rfl, S₆, _, fun b o e => e, stN, fG'.trans (fH.trans (fI.trans (fJ.trans (fK.trans (fL.trans (fM.trans fN)))))), hmb, rfl, path', line', name'⟩
    · rintro f sH ⟨rfl, S₇, m₇, hS₇, stH, fH, hb1, hb2, hb3⟩
      obtain ⟨⟨p₂, pv₂, ps₂, g1, g2, g3, g4, g5, g6⟩, ⟨z₂, tz₂, g7, g8, g9⟩, ⟨nm₂, tn₂, g10, g11⟩⟩ := id hb3
      have hc0 := Int.fmod_nonneg_of_pos x (b := 1000) (by decide)
      have hc1 := Int.fmod_lt_of_pos x (b := 1000) (by decide)
      refine wpAny_execs_cons (wpAny_Expr (Call_method1 (by rfl) (by rfl) (by rfl) (eLoc stH hb1 (mAppend1 stH (by rw [sizeLine_eq]; omega) ?_))))
      refine Tuple_ (args_cons (eLoc stH g1 (args_cons (eLoc stH g7 (args_cons (eLoc stH g10 ?_))))))
      refine args_cons (wpAny_BinOp (eLoc stH hb2 (wpAny_Constant_int (PyProof.Rows.mod_int' (by decide) ?_))))
      refine args_nil (mkTupP (s := { sH with toks := sH.toks + 1 + 1 }) stH fun t₁ S₈ sI fI hS₈ hT₈ stI kI => ⟨_, _, _, us, n, (by rw [sizeLine_eq]; omega), stI, fun n₂ sJ fJ stJ => wpAny_execs_nil ?_⟩)
      refine ⟨S₈, _, _, fun b o e => hS₈ _ _ (hS₇ _ _ (hS₆ _ _ e)), stJ, fH.trans (Fro.trans fI fJ), hb1, hb3.mono hS₈ (Nat.le_refl _), us ++ [.ref t₁], bs ++ [⟨ps₂, z₂, nm₂, x.fmod 1000⟩], n₂, rfl, by simp [hbl], ?_, fun b hb => ?_⟩
      · refine Paired.snoc (Paired.mono (fun a b (h : BkS S₆ a b) => h.mono fun b o e => hS₈ _ _ (hS₇ _ _ e)) hbs') ⟨t₁, p₂, pv₂, tz₂, tn₂, _, rfl, hT₈, g2.mono hS₈, g3⟩
      · rcases List.mem_append.1 hb with hb | hb
        · exact hgood b hb
        · rw [List.mem_singleton.1 hb]
          exact ⟨g4, by show ps₂.length ≤ 20; omega, fun q hq => (g6 q hq).mono (by omega), g8, g9, g11.mono (by omega), hc0, hc1⟩
  · rintro S' l' m' sC hS ⟨hf, hmb, hcur, us, bs, n, rfl, hbl, hbs, hgood⟩ stC
    refine wpAny_execs_cons (wpAny_Return_some (eLoc stC hmb ?_))
    refine k D us bs sC hf (fun b o e => stC.keep _ _ (hS _ _ (hS₅ _ _ (hS₄ _ _ (hS₃ _ _ (hS₂ _ _ e)))))) ⟨n, stC.at0⟩ ?_ (Paired.mono (fun a b (h : BkS S' a b) => h.mono stC.keep) hbs) hgood
    rw [hbl]; simp; omega
end Mine
end

section
set_option linter.unusedVariables false
set_option maxRecDepth 100000
set_option maxHeartbeats 1000000
namespace Mine
theorem fOwner : Manifest.owners.lookup (String.ofList ['r', 'e', 't', 'l', 'i', 'f'].reverse) = some Manifest.sig_filter := by kernel_rfl
theorem fNext : Slot "filter" "__next__" "filter.__next__" :=
  .of (owner := "filter") (n := "__next__") (by rw [typeLookup_type, builtinLookup_eq_fast]; kernel_rfl) (by decide +kernel) (by decide +kernel) (by decide +kernel)
    (by first | exact .inl (by decide +kernel) | exact .inr (by decide +kernel)) (by rw [isSubtype_type]; kernel_rfl)
theorem fIter : Slot "filter" "__iter__" "filter.__iter__" :=
  .of (owner := "filter") (n := "__iter__") (by rw [typeLookup_type, builtinLookup_eq_fast]; kernel_rfl) (by decide +kernel) (by decide +kernel) (by decide +kernel)
    (by first | exact .inl (by decide +kernel) | exact .inr (by decide +kernel)) (by rw [isSubtype_type]; kernel_rfl)
theorem fInit : Slot "filter" "__init__" "object.__init__" :=
  .of (owner := "object") (n := "__init__") (by rw [typeLookup_type, builtinLookup_eq_fast]; kernel_rfl) (by decide +kernel) (by decide +kernel) (by decide +kernel)
    (by first | exact .inl (by decide +kernel) | exact .inr (by decide +kernel)) (by rw [isSubtype_type]; kernel_rfl)
theorem fNextArgs (a : Value) : argsOk "filter.__next__" ⟨[a], []⟩ := by
  unfold argsOk; rw [signature?_of (id := "filter.__next__") (n := ['_', '_', 't', 'x', 'e', 'n', '_', '_']) (o := ['r', 'e', 't', 'l', 'i', 'f']) (by kernel_rfl) fOwner]; kernel_rfl
theorem fIterArgs (a : Value) : argsOk "filter.__iter__" ⟨[a], []⟩ := by
  unfold argsOk; rw [signature?_of (id := "filter.__iter__") (n := ['_', '_', 'r', 'e', 't', 'i', '_', '_']) (o := ['r', 'e', 't', 'l', 'i', 'f']) (by kernel_rfl) fOwner]; kernel_rfl
theorem fEntryNext : entryFor table "filter.__next__" = some Builtin.«filter.__next__» := entryFor_of_tree (by kernel_rfl)
theorem fEntryNew : entryFor table "filter.__new__" = some Builtin.«filter.__new__» := entryFor_of_tree (by kernel_rfl)
theorem fEntryIter : entryFor table "filter.__iter__" = some Builtin.«dict_keyiterator.__iter__» :=
  entryFor_alias (id' := "dict_keyiterator.__iter__") (by kernel_rfl) (by first | rfl | decide +kernel | (unfold String.splitOn; simp +decide [String.splitOnAux])) (by decide +kernel) (by kernel_rfl)
theorem fMro : mroOf (.type "filter") = pure [.type "filter", .type "object"] := by rw [mroOf_type]; kernel_rfl
theorem fLookNew : typeLookup (.type "filter") "__new__" = pure (some (.builtin "filter.__new__")) := by rw [typeLookup_type, builtinLookup_eq_fast]; kernel_rfl
theorem fCalled : TypeCalled "filter" "filter.__new__" "object.__init__" :=
  ⟨by decide +kernel, by decide +kernel, ⟨_, _, fMro⟩, madeBy_type fMro fLookNew (by decide +kernel), by decide +kernel, by rw [isSubtype_type]; kernel_rfl, fInit⟩
theorem fTypeCall (a b : Value) : checkTypeCall "filter" ⟨[a, b], []⟩ = pure () := by kernel_rfl
theorem fNewCall (a b : Value) : checkBuiltinCall "filter.__new__" ⟨[.type "filter", a, b], []⟩ = pure () := by kernel_rfl
theorem fSub : isSubtype (.type "filter") (.type "filter") = pure true := by rw [isSubtype_type]; kernel_rfl
theorem fPlain : plainId "filter.__next__" = true := by decide +kernel
abbrev fobj (it : Addr) : Obj := { cls := .type "filter", data := .fields #[.builtin "len", .ref it] }
theorem meets_filter_new (T : Addr) (xs : Array Value) :
    Meets (Builtin.«filter.__new__» ⟨[.type "filter", .builtin "len", .ref T], []⟩) (fun _ R s => s.heap.IsTuple T xs ∧
      R (.ok (.ret (.ref (s.heap.push { cls := .type "tuple_iterator", data := .fields #[.ref T, .int 0 0] }).objs.size))) { s with heap := (s.heap.push { cls := .type "tuple_iterator", data := .fields #[.ref T, .int 0 0] }).push (fobj s.heap.objs.size) }) :=
  .of_wp fun prog w A R s h => by
    obtain ⟨hp, g, d, tk, os⟩ := s; obtain ⟨hl, h⟩ := h
    have hsub := fSub
    have hL : Heap.IsTuple (Shared.heap ⟨hp, g, d, tk, os⟩) T xs := hl
    wp_walk using wpAny_pyIter_tuple hL
    exact ⟨_, rfl, h⟩
end Mine
end

section
set_option linter.unusedVariables false
set_option maxRecDepth 100000
set_option maxHeartbeats 1000000
namespace Mine
variable {w : World} {A : Around} {E : Value → Shared → Prop} {s : Shared}
def pass (v : Value) : Bool := match v with | .str x _ => !(x.length == 0) | _ => false
theorem call_filter {T : Addr} {xs : Array Value} {Q : Value → Shared → Prop} (hl : s.heap.IsTuple T xs)
    (h : ∀ h', h'.get? (s.heap.objs.size + 1) = some (fobj s.heap.objs.size) → h'.IsTupleIter s.heap.objs.size T 0 → h'.objs.size = s.heap.objs.size + 2 → Kp s.heap h' → Q (.ref (s.heap.objs.size + 1)) { s with heap := h' }) :
    wpAny (model PR w) A (call (.type "filter") [.builtin "len", .ref T]) Q E s := by
  refine callType_new fCalled (by decide) (fTypeCall _ _) (fNewCall _ _) (fun obj => PySem.F.args_object_init_3 obj _ _) fEntryNew (meets_filter_new T xs) ⟨hl, ?_⟩
  have z1 : (s.heap.push { cls := .type "tuple_iterator", data := .fields #[.ref T, .int 0 0] }).objs.size = s.heap.objs.size + 1 := Heap.size_push ..
  have g2 : ((s.heap.push { cls := .type "tuple_iterator", data := .fields #[.ref T, .int 0 0] }).push (fobj s.heap.objs.size)).get? (s.heap.push { cls := .type "tuple_iterator", data := .fields #[.ref T, .int 0 0] }).objs.size = some _ := Heap.get?_push_size _ rfl
  have g1 : ((s.heap.push { cls := .type "tuple_iterator", data := .fields #[.ref T, .int 0 0] }).push (fobj s.heap.objs.size)).get? s.heap.objs.size = some _ := Heap.get?_push_of_some _ (Heap.get?_push_size _ rfl)
  show _ ∧ _
  rw [z1] at g2 ⊢
  refine ⟨⟨_, g2, rfl⟩, h _ g2 ⟨_, g1, rfl, rfl⟩ (by rw [Heap.size_push, z1]) fun c o x => Heap.get?_push_of_some _ (Heap.get?_push_of_some _ x)⟩
/-- a tuple's iterator, one item further -/
theorem tupTurn (it t : Addr) (i : Nat) (items : Array Value) (x : Value) (hx : items[i]? = some x) :
    Meets (Builtin.«tuple_iterator.__next__» ⟨[.ref it], []⟩) (fun _ R s => s.heap.IsTupleIter it t i ∧ s.heap.IsTuple t items ∧
      ∀ h', h'.IsTupleIter it t (i + 1) → Heap.SameBut it s.heap h' → R (.ok (.ret x)) { s with heap := h' }) :=
  .of_wp fun prog w A R s h => by
    obtain ⟨⟨⟨c, d, da, sl⟩, ho, hc, hd⟩, ⟨⟨c', d', da', sl'⟩, ho', hc', n, hd'⟩, k⟩ := h
    simp only at hc hd hc' hd'
    subst hc hd hc' hd'
    obtain ⟨hp, g, de, tk, os⟩ := s
    simp only at ho ho' k
    wp_walk
    rw [Int.toNat_natCast, hx]
    wp_walk
    exact ⟨x, rfl, k _ ⟨_, Heap.get?_update_self _ ho rfl, rfl, rfl⟩ (Heap.SameBut.update ..)⟩
/-- a tuple's iterator at its end -/
theorem tupStop (it t : Addr) (i : Nat) (items : Array Value) (hx : items[i]? = none) :
    Meets (Builtin.«tuple_iterator.__next__» ⟨[.ref it], []⟩) (fun A R s => A.handled = none ∧ s.heap.IsTupleIter it t i ∧ s.heap.IsTuple t items ∧
      ∀ h' e, Heap.ExtBut it s.heap h' → (∃ o, h'.get? e = some o ∧ o.cls = .type "StopIteration") → R (.error (.ref e)) { s with heap := h' }) :=
  .of_wp fun prog w A R s h => by
    obtain ⟨hh, ⟨⟨c, d, da, sl⟩, ho, hc, hd⟩, ⟨⟨c', d', da', sl'⟩, ho', hc', n, hd'⟩, k⟩ := h
    simp only at hc hd hc' hd'
    subst hc hd hc' hd'
    obtain ⟨hp, g, de, tk, os⟩ := s
    simp only at ho ho' k
    wp_walk
    rw [Int.toNat_natCast, hx]
    wp_walk
    refine wpAny_raiseNew_none hh (k _ _ (fun b o hb e => ?_) ⟨_, Heap.get?_push_size _ rfl, rfl⟩)
    exact Heap.get?_push_of_some _ (Heap.get?_push_of_some _ ((Heap.SameBut.update ..).extBut b o hb e))
theorem tupNext {it t : Addr} {i : Nat} {items : Array Value} {x : Value} {Q : Option Value → Shared → Prop} (hit : s.heap.IsTupleIter it t i) (ht : s.heap.IsTuple t items) (hx : items[i]? = some x)
    (hQ : ∀ h', h'.IsTupleIter it t (i + 1) → Heap.SameBut it s.heap h' → Q (some x) { s with heap := h' }) :
    wpAny (model PR w) A (callSpecial? (.ref it) "__next__") Q E s :=
  wpAny_callSpecial?_slot hit.typeIs PySem.F.slot_tuple_iterator_next
    (call_meets PySem.F.slot_tuple_iterator_next hit.typeIs PySem.F.entry_tuple_iterator_next (PySem.F.args_tuple_iterator_next_1 _) (tupTurn it t i items x hx) ⟨hit, ht, hQ⟩)
theorem tupEnd {it t : Addr} {i : Nat} {items : Array Value} {Q : Option Value → Shared → Prop} (hh : A.handled = none) (hit : s.heap.IsTupleIter it t i) (ht : s.heap.IsTuple t items) (hx : items[i]? = none)
    (hE : ∀ h' e, Heap.ExtBut it s.heap h' → (∃ o, h'.get? e = some o ∧ o.cls = .type "StopIteration") → E (.ref e) { s with heap := h' }) :
    wpAny (model PR w) A (callSpecial? (.ref it) "__next__") Q E s :=
  wpAny_callSpecial?_slot hit.typeIs PySem.F.slot_tuple_iterator_next
    (call_meets PySem.F.slot_tuple_iterator_next hit.typeIs PySem.F.entry_tuple_iterator_next (PySem.F.args_tuple_iterator_next_1 _) (tupStop it t i items hx) ⟨hh, hit, ht, hE⟩)
theorem filter_next {F it T : Addr} {items : List Value} (hh : A.handled = none) (hT : T ≠ it) (hF : F ≠ it) (hstr : ∀ v ∈ items, ∃ x t, v = .str x t ∧ x.length ≤ 1000000) :
    ∀ (n k : Nat) (s : Shared) (R : Result → Shared → Prop), items.length - k = n → s.heap.IsTupleIter it T k → s.heap.IsTuple T items.toArray → s.heap.get? F = some (fobj it) →
    (∀ v k' h' tk, (items.drop k).filter pass = v :: (items.drop k').filter pass → h'.IsTupleIter it T k' → Heap.ExtBut it s.heap h' → R (.ok (.ret v)) { s with heap := h', toks := tk }) →
    ((items.drop k).filter pass = [] → ∀ h' e tk, Heap.ExtBut it s.heap h' → (∃ o, h'.get? e = some o ∧ o.cls = .type "StopIteration") → R (.error (.ref e)) { s with heap := h', toks := tk }) →
    wpAny (model PR w) A.in1 (Builtin.«filter.__next__» ⟨[.ref F], []⟩) (fun fin s' => match fin with | .done f => R (.ok f) s' | .again c' => c'.quiet = true ∧ codeAny (model PR w) A c' R s') (fun e s' => R (.error e) s') s := by
  intro n
  induction n with
  | zero =>
    intro k s R hn hit ht hf hv he
    show wpAny _ _ (field (.ref F) 0 >>= _) _ _ _
    refine wpAny_bind (wpAny_field hf rfl (x := .builtin "len") rfl ?_)
    show wpAny _ _ (field (.ref F) 1 >>= _) _ _ _
    refine wpAny_bind (wpAny_field hf rfl (x := .ref it) rfl ?_)
    have hd : items.drop k = [] := List.drop_eq_nil_of_le (by omega)
    refine wpAny_bind (tupEnd hh hit ht (by simp; omega) fun h' e hk hs => ?_)
    exact he (by rw [hd]; rfl) h' e s.toks hk hs
  | succ n ih =>
    intro k s R hn hit ht hf hv he
    have hlt : k < items.length := by omega
    show wpAny _ _ (field (.ref F) 0 >>= _) _ _ _
    refine wpAny_bind (wpAny_field hf rfl (x := .builtin "len") rfl ?_)
    show wpAny _ _ (field (.ref F) 1 >>= _) _ _ _
    refine wpAny_bind (wpAny_field hf rfl (x := .ref it) rfl ?_)
    obtain ⟨x, t, hx, hxl⟩ := hstr items[k] (List.getElem_mem hlt)
    have hd : items.drop k = .str x t :: items.drop (k + 1) := by rw [List.drop_eq_getElem_cons hlt, hx]
    refine wpAny_bind (tupNext hit ht (x := .str x t) (by rw [List.getElem?_toArray, List.getElem?_eq_getElem hlt, hx]) fun h' hit' hs' => ?_)
    refine wpAny_bind (wpAny_holding ?_)
    show wpAny _ _ (if (Value.builtin "len" == Value.none || Value.builtin "len" == Value.type "bool") = true then _ else _) _ _ _
    rw [if_neg (show ¬ ((Value.builtin "len" == Value.none || Value.builtin "len" == Value.type "bool") = true) from by decide)]
    refine wpAny_bind (P.len_str (by omega) ?_)
    refine wpAny_holding ?_
    refine P.truthy_int ?_
    have hk' : ∀ h'', Heap.ExtBut it h' h'' → Heap.ExtBut it s.heap h'' := fun h'' q b o hb e => q b o hb (hs'.extBut b o hb e)
    by_cases hz : x.length = 0
    · have hp : pass (.str x t) = false := by show (!(x.length == 0)) = false; rw [hz]; rfl
      have hfil : (items.drop k).filter pass = (items.drop (k + 1)).filter pass := by rw [hd, List.filter_cons, hp]; rfl
      rw [show (((x.length : Nat) : Int) != 0) = false from by rw [hz]; rfl]
      show wpAny _ _ (pure (Fin.again _)) _ _ _
      refine wpAny_pure ⟨plainId_quiet fPlain _, codeAny_builtin fEntryNext ?_⟩
      rw [Around.under_plainId fPlain]
      refine ih (k + 1) { s with heap := h', toks := s.toks + 1 + 1 } R (by omega) hit' (ht.at fun o e => hs'.extBut _ _ hT e) (hs'.extBut _ _ hF hf) (fun v k' h'' tk q1 q2 q3 => ?_) (fun q1 h'' e tk q2 q3 => ?_)
      · exact hv v k' h'' tk (hfil.trans q1) q2 (hk' _ q3)
      · exact he (hfil.trans q1) h'' e tk (hk' _ q2) q3
    · have hp : pass (.str x t) = true := by show (!(x.length == 0)) = true; rw [beq_eq_false_iff_ne.2 hz]; rfl
      rw [show (((x.length : Nat) : Int) != 0) = true from bne_iff_ne.2 (by omega)]
      show wpAny _ _ (pure (Fin.done (.ret _))) _ _ _
      refine wpAny_pure ?_
      exact hv _ (k + 1) h' _ (by rw [hd, List.filter_cons, hp]; rfl) hit' hs'.extBut
theorem filterCall {F it T : Addr} {items : List Value} {k : Nat} {Q : Value → Shared → Prop} (hh : A.handled = none) (hT : T ≠ it) (hF : F ≠ it) (hstr : ∀ v ∈ items, ∃ x t, v = .str x t ∧ x.length ≤ 1000000)
    (h2 : s.heap.IsTupleIter it T k) (h3 : s.heap.IsTuple T items.toArray) (h1 : s.heap.get? F = some (fobj it))
    (hv : ∀ v k' h' tk, (items.drop k).filter pass = v :: (items.drop k').filter pass → h'.IsTupleIter it T k' → Heap.ExtBut it s.heap h' → Q v { s with heap := h', toks := tk })
    (he : (items.drop k).filter pass = [] → ∀ h' e tk, Heap.ExtBut it s.heap h' → (∃ o, h'.get? e = some o ∧ o.cls = .type "StopIteration") → E (.ref e) { s with heap := h', toks := tk }) :
    wpAny (model PR w) A (call (.builtin "filter.__next__") [.ref F]) Q E s :=
  wpAny_call (codeAny_call_builtin fPlain fEntryNext (fNext.check _ _ _ _ _ _ _ _ ⟨_, h1, rfl⟩ (fNextArgs _)
    (filter_next hh hT hF hstr _ k s (fun r s' => match r with | .ok (.ret v) => Q v s' | .ok _ => False | .error e => E e s') rfl h2 h3 h1 hv he)))
theorem filterWalks {F it T : Addr} {items : List Value} (hh : A.handled = none) (hT : T ≠ it) (hF : F ≠ it) (hstr : ∀ v ∈ items, ∃ x t, v = .str x t ∧ x.length ≤ 1000000) :
    Walks PR w A F [F, it, T] [it] (items.filter pass).length (fun i v => (items.filter pass)[i]? = some v)
      (fun i h => ∃ k, h.get? F = some (fobj it) ∧ h.IsTupleIter it T k ∧ h.IsTuple T items.toArray ∧ (items.drop k).filter pass = (items.filter pass).drop i) where
  sub := fun b hb => by simp at hb; simp [hb]
  frame := fun i h h' st hk => by
    obtain ⟨k, h1, h2, h3, h4⟩ := st
    exact ⟨k, hk F (by simp) _ h1, h2.at fun o e => hk it (by simp) o e, h3.at fun o e => hk T (by simp) o e, h4⟩
  item := fun i s Q E hi st hQ => by
    obtain ⟨k, h1, h2, h3, h4⟩ := st
    have hTy : s.TypeIs (.ref F) "filter" := ⟨_, h1, rfl⟩
    unfold pyNext
    refine wpAny_bind (wpAny_attempt (wpAny_callSpecial?_slot (name := Str.ofString "__next__") hTy fNext
      (filterCall hh hT hF hstr h2 h3 h1 (fun v k' h' tk q1 q2 q3 => ?_) (fun q1 => ?_))))
    · rw [h4, List.drop_eq_getElem_cons hi] at q1
      have e1 := (List.cons.inj q1).1
      have e2 := (List.cons.inj q1).2
      refine wpAny_pure (hQ v h' tk (by rw [← e1]; exact List.getElem?_eq_getElem hi) ⟨k', q3 _ _ hF h1, q2, h3.at fun o e => q3 _ _ hT e, e2.symm⟩ fun b o hb e => q3 b o (by simpa using hb) e)
    · rw [h4, List.drop_eq_getElem_cons hi] at q1; cases q1
  done := fun s Q E st hQ => by
    obtain ⟨k, h1, h2, h3, h4⟩ := st
    have hTy : s.TypeIs (.ref F) "filter" := ⟨_, h1, rfl⟩
    rw [List.drop_eq_nil_of_le (Nat.le_refl _)] at h4
    unfold pyNext
    refine wpAny_bind (wpAny_attempt (wpAny_callSpecial?_slot (name := Str.ofString "__next__") hTy fNext
      (filterCall hh hT hF hstr h2 h3 h1 (fun v k' h' tk q1 q2 q3 => ?_) (fun q1 h' e tk q2 q3 => ?_))))
    · rw [h4] at q1; cases q1
    · obtain ⟨o, ho, hc⟩ := q3
      refine wpAny_bind (wpAny_isInstance (T := "StopIteration") (b := true) ⟨o, ho, hc⟩ isSubtype_stop ?_)
      exact wpAny_pure (hQ h' tk fun b o hb e => q2 b o (by simpa using hb) e)
  self := fun i s Q E st hQ => by
    obtain ⟨k, h1, h2, h3, h4⟩ := st
    have hTy : s.TypeIs (.ref F) "filter" := ⟨_, h1, rfl⟩
    refine wpAny_pyIter_slot hTy fIter (wpAny_call_entry fIter hTy fEntryIter ?_ (fIterArgs _))
    show wpAny _ _ (ret (.ref F)) _ _ s
    exact wpAny_pure ⟨_, rfl, "filter", _, hTy, fNext.lookup, hQ⟩
end Mine
end

section
set_option linter.unusedVariables false
set_option maxRecDepth 100000
set_option maxHeartbeats 1000000
namespace Mine
variable {w : World} {mg mb : Str → Option Value} {B : Heap} {A : Around} {E : Value → Shared → Prop} {s : Shared} {S : Addr → Obj → Prop} {l : List (Addr × Obj)} {m : Str → Option Value} {env : Env} {M : Model}
theorem callV {n : Nat} {f : Addr} {o : Obj} {fd : FuncData} {body : List Stmt} {args : List Value} {ps : Array Value} {Q : Value → Shared → Prop}
    (hA : OkA A (n + 1)) (W : Wd w mg mb B) (hB : Kp B s.heap) (hps : s.heap.get? 72 = some (tabObj ps))
    (ho : (KK w).lookup f = some o) (hd : o.data = .func fd) (hcd : codeIn (KK w) fd.code fd.qualname = true) (hbody : fd.body = .stmts body) (hl : args.length ≤ 100)
    (hbind : bindArgs fd ⟨args, []⟩ = (do let t ← newTuple args; pure [(("args" : Str), t)]))
    (hcell : ∀ x ∈ fd.scope.names, x.2 ≠ .cell) (hloc : fd.scope.names.lookup ("args" : Str) = some .local)
    (h : ∀ s₁ S₁ L, Fro s s₁ → (∀ b o, b ≠ 72 → s.heap.get? b = some o → S₁ b o) → TupS S₁ s.heap.objs.size args → St w mg mb B S₁ [(72, tabObj ps)] L (fun x => [(("args" : Str), Value.ref s.heap.objs.size)].reverse.lookup x) s₁.heap → OkA (A.deeper (callEnv fd L f)) n →
      wpAny (model PR w) (A.deeper (callEnv fd L f)) (execs body (callEnv fd L f)) (fun fl s' => Q (flv fl) s') (fun _ _ => False) s₁)
    (hco : fd.scope.isCoroutine = false := by rfl) (hgen : fd.scope.isGenerator = false := by rfl) (hk : fd.scope.kind = .function := by rfl) :
    wpAny (model PR w) A (call (.ref f) args) Q E s := by
  have XK : (KK w).In s.heap := W.X.keeps hB
  refine wpAny_call ?_
  refine codeAny_call_function (by have := hA.d; omega) (XK _ _ ho) hd hco hgen hbody (codeRec_of XK hcd) ?_
  rw [hbind]
  refine wpAny_bind (wpAny_newObj_type (wpAny_pure ?_) (by show args.toArray.size ≤ sizeLine; rw [List.size_toArray, sizeLine_eq]; omega))
  have hlim : (s.heap.push { cls := .type "tuple", data := .seq args.toArray }).NoLimit := (W.T.nolimit.keeps hB).push _
  refine wpAny_newFunctionEnv hcell (fun x hx => by rw [List.mem_singleton.1 hx]; exact hloc) (fun h₀ hns₀ hsb₀ => ⟨hlim.fresh _ hsb₀, codeAny_func ?_⟩) hk
  have hk₀ : ∀ b o, (s.heap.push { cls := .type "tuple", data := .seq args.toArray }).get? b = some o → h₀.get? b = some o := fun b o e => hsb₀.extBut b o (Nat.ne_of_lt (Heap.lt_size e)) (Heap.get?_push_of_some _ e)
  have hk₁ : Kp s.heap h₀ := fun b o e => hk₀ b o (Heap.get?_push_of_some _ e)
  refine wpAny_mono (h { s with heap := h₀, toks := _ } (fun b o => (b ≠ 72 ∧ s.heap.get? b = some o) ∨ (b = s.heap.objs.size ∧ o = { cls := .type "tuple", data := .seq args.toArray })) (s.heap.push { cls := .type "tuple", data := .seq args.toArray }).objs.size (Fro.mk' _ _)
    (fun b o hb e => .inl ⟨hb, e⟩) ⟨_, .inr ⟨rfl, rfl⟩, rfl, _, rfl⟩ ⟨W, hns₀, fun b o e => ?_, fun o e => ?_, fun b o e => ?_, fun q hq => ?_, fun q hq => ?_, ?_⟩ (hA.deeper _)) (fun fl s' q => ?_) (fun _ _ x => x.elim)
  · rcases e with ⟨_, e⟩ | ⟨rfl, rfl⟩
    · exact hk₁ b o e
    · exact hk₀ _ _ (Heap.get?_push_size _ rfl)
  · rw [Heap.size_push] at e
    rcases e with ⟨_, e⟩ | ⟨e, _⟩
    · exact absurd (Heap.lt_size e) (Nat.not_lt.2 (Nat.le_succ _))
    · exact absurd e (Nat.succ_ne_self _)
  · exact .inl ⟨(fun q => by rw [q, W.n72] at e; cases e), hB b o e⟩
  · rw [List.mem_singleton.1 hq]; exact hk₁ _ _ hps
  · rw [List.mem_singleton.1 hq]
    have h72 := Heap.lt_size hps
    refine ⟨fun q => ?_, fun o e => ?_⟩
    · have q' : 72 = (s.heap.push { cls := .type "tuple", data := .seq args.toArray }).objs.size := q
      rw [Heap.size_push] at q'; exact Nat.ne_of_lt (Nat.lt_succ_of_lt h72) q'
    · rcases e with ⟨e, _⟩ | ⟨e, _⟩
      · exact e rfl
      · have e' : 72 = s.heap.objs.size := e
        exact Nat.ne_of_lt h72 e'
  · simp
  · cases fl <;> exact q
end Mine
end

section
set_option linter.unusedVariables false
set_option maxRecDepth 100000
set_option maxHeartbeats 1000000
namespace Mine
variable {w : World} {mg mb : Str → Option Value} {B : Heap} {A : Around} {E : Value → Shared → Prop} {s : Shared} {S : Addr → Obj → Prop} {l : List (Addr × Obj)} {m : Str → Option Value} {env : Env} {M : Model}
theorem mJoin {x : Str} {t : Tok} {pos : Pos} {a : Sem Value} {Q : Value → Shared → Prop} (h : wpAny (model PR w) A a (fun v s₁ => wpAny (model PR w) A (call (.builtin "str.join") [.str x t, v]) Q E s₁) E s) :
    MethodOnS PR w A E "join" (.str x t) pos [(false, a)] Q s :=
  ⟨"str", "str.join", PySem.F.plainAttrs_str, PySem.F.slot_str_join, PySem.F.type_str_join, typeIs_str _ _ _, (fun _ e => nomatch e),
    Calls.callWith_builtin rfl (Calls.evalArgs_plain (Calls.spliced_cons (wpAny_mono h (fun _ _ h₁ => Calls.spliced_nil h₁) fun _ _ e => e)))⟩
abbrev gscope : Scope := { kind := .function, names := [(".0", .local), ("x", .local)], isGenerator := true, isCoroutine := false, more := [] }
/-- the texts that go into the join -/
def passed (ts : List Str) : List Str := (ts.filter fun t => !(t.length == 0)).map Txt.strip
theorem passedStrs {vs : List Value} {ts : List Str} (h : StrsAre vs ts) : StrsAre (vs.filter pass) (ts.filter fun t => !(t.length == 0)) := by
  induction h with
  | nil => exact .nil
  | cons y t h ih =>
    rw [List.filter_cons, List.filter_cons]
    by_cases e : (!(y.length == 0)) = true
    · rw [if_pos (show pass (.str y t) = true from e), if_pos e]; exact .cons y t ih
    · rw [if_neg (show ¬ pass (.str y t) = true from e), if_neg e]; exact ih
theorem eGenJoin {items : List Value} {ts : List Str} {T : Addr} {ps : Array Value} {pos px p1 p2 p3 p4 p5 p6 p7 : Pos} {t : Tok} {Q : Value → Shared → Prop} (hA : OkA A 2)
    (st : St w mg mb B S [(72, tabObj ps)] env.locals m s.heap) (htr : TriplesOk ps.toList) (hcode : env.code = .ref 76) (hv : m "args" = some (.ref T)) (hT : TupS S T items) (hstr : StrsAre items ts) (hlen : ∀ t ∈ ts, t.length ≤ 1000) (hn : ts.length ≤ 3)
    (hclos : closureFor gscope env = pure [])
    (k : ∀ t' s' ps', s'.os = s.os → (AllBare s.gens → AllBare s'.gens) → TriplesOk ps'.toList → St w mg mb B S [(72, tabObj ps')] env.locals m s'.heap → Q (.str (Txt.join "-" (passed ts)) t') s')
    (hp23 : (p2.endLine == p3.line) = true := by rfl) (hg : env.globals = mainGlobals := by rfl) (hb : env.builtins = builtinsNs := by rfl) (hk : env.scope.kind = .function := by rfl) (h1 : env.kindOf "filter" = some .globalImplicit := by rfl) (h2 : env.kindOf "len" = some .globalImplicit := by rfl) (h3 : env.kindOf "args" = some .local := by rfl) :
    wpAny (model PR w) A (eval (.GeneratorExp (.Call (.Attribute (.Name "x" p1) "strip" p2) [] [] p3) [⟨.Name "x" px, .Call (.Name "filter" p4) [.Name "len" p5, .Name "args" p6] [] p7, [], 0⟩] gscope pos) env)
      (fun v s₁ => wpAny (model PR w) A (call (.builtin "str.join") [.str "-" t, v]) Q E s₁) E s := by
  have hsv : ∀ v ∈ items, ∃ x t, v = .str x t ∧ x.length ≤ 1000000 := fun v hv => by
    obtain ⟨i, hi, rfl⟩ := List.getElem_of_mem hv
    obtain ⟨x, t, hx, e⟩ := strsAt hstr (List.getElem?_eq_getElem hi)
    exact ⟨x, t, e, by have := hlen x (List.mem_of_getElem? hx); omega⟩
  refine wpAny_GeneratorExp_walksQ hA.hh (by rfl) hclos (by decide) (by rfl) (by rfl) (by rfl) (by have := hA.d; omega) ?_ (fun x => by rfl)
  refine Call_ (eBlt st (v := .type "filter") (by rfl) (by rfl) (by decide) ?_ hg hb hk h1) (by rfl)
  refine PyProof.Rows.callWith_type1 (args_cons (eBlt st (v := .builtin "len") (by rfl) (by rfl) (by decide) (args_cons (eLoc st hv (args_nil (call_filter (hT.at st) fun h' g1 g2 g3 kp => ?_)) hk h3)) hg hb hk h2))
  have hTo : ∃ o, s.heap.get? T = some o := let ⟨o, e, _⟩ := hT.at st; ⟨o, e⟩
  obtain ⟨oT, hoT⟩ := hTo
  have hTlt : T < s.heap.objs.size := Heap.lt_size hoT
  have hTne : T ≠ s.heap.objs.size := Nat.ne_of_lt hTlt
  have hFne : s.heap.objs.size + 1 ≠ s.heap.objs.size := Nat.succ_ne_self _
  have ht' : h'.IsTuple T items.toArray := let ⟨o, e, r⟩ := hT.at st; ⟨o, kp _ _ e, r⟩
  have st' : St w mg mb B S [(72, tabObj ps)] env.locals m h' := st.keeps kp
  have h72 : 72 < s.heap.objs.size := Heap.lt_size st.at0
  refine (filterWalks hA.hh hTne hFne hsv).self 0 _ _ _ ⟨0, g1, g2, ht', by simp⟩ ?_
  refine ⟨st.W.T.nolimit.keeps st'.base, ?_⟩
  refine wpAny_mono (Q := fun code s₃ => ∃ h₃ tk₃ ps', s₃ = { s with heap := h₃, toks := tk₃ } ∧ Heap.ExtBut 72 h' h₃ ∧ h₃.get? 72 = some (tabObj ps') ∧ TriplesOk ps'.toList) ?_ (fun code s₃ q => ?_) (fun _ _ e => e)
  · have hC := st.W.C.keeps st'.base
    cases hca : codeAmong pos ps.toList with
    | none =>
      refine wpAny_genexprCodeX hcode (hC.code st'.at0 htr) (hC.tab st'.at0) hca fun c' h₃ tk₃ hx₃ _ _ _ _ htab₃ _ => ⟨h₃, tk₃, _, rfl, hx₃, htab₃.2, ?_⟩
      have e : (ps ++ #[rawInt pos.line, rawInt pos.col, .ref c']).toList = ps.toList ++ [rawInt pos.line, rawInt pos.col, .ref c'] := by simp
      rw [e]; exact TriplesOk_snoc _ _ _ _ htr
    | some cv => exact wpAny_genexprCode_hit hcode (hC.code st'.at0 htr) hca ⟨h', s.toks, ps, rfl, fun _ _ _ e => e, st'.at0, htr⟩
  · obtain ⟨h₃, tk₃, ps', rfl, hx₃, h72₃, htr₃⟩ := q
    have hB₃ : Kp B h₃ := fun b o e => hx₃ b o (fun q => by rw [q, st.W.n72] at e; cases e) (st'.base b o e)
    obtain ⟨bm, ob, hM⟩ := st.W.M
    have hM₃ := hM.keeps hB₃
    rw [hg]
    refine wpAny_builtinsFor hM₃.ns hM₃.name hM₃.ne hM₃.obj hM₃.cls hM₃.dict hM₃.data ?_
    have hit72 : s.heap.objs.size ≠ 72 := fun e => Nat.ne_of_lt h72 e.symm
    have hF72 : s.heap.objs.size + 1 ≠ 72 := fun e => Nat.ne_of_lt (Nat.lt_succ_of_lt h72) e.symm
    have hT72 : T ≠ 72 := fun e => by
      obtain ⟨o, e1, e2, _⟩ := hT.at st
      rw [e, st.at0] at e1; cases e1; cases e2
    have gF : h₃.get? (s.heap.objs.size + 1) = some (fobj s.heap.objs.size) := hx₃ _ _ hF72 g1
    have gI : h₃.IsTupleIter s.heap.objs.size T 0 := let ⟨o, e, r⟩ := g2; ⟨o, hx₃ _ _ hit72 e, r⟩
    have gT : h₃.IsTuple T items.toArray := let ⟨o, e, r⟩ := ht'; ⟨o, hx₃ _ _ hT72 e, r⟩
    have hlF : s.heap.objs.size + 1 < h₃.objs.size := Heap.lt_size gF
    have hpl := (passedStrs hstr).length
    have hpl2 : (ts.filter fun t => !(t.length == 0)).length ≤ ts.length := List.length_filter_le _ _
    have hfpb : ∀ b ∈ [s.heap.objs.size + 1, s.heap.objs.size, T], b < h₃.objs.size := fun b hb => by
      rcases List.mem_cons.1 hb with rfl | hb
      · exact hlF
      · rcases List.mem_cons.1 hb with rfl | hb
        · exact Nat.lt_of_succ_lt hlF
        · rw [List.mem_singleton.1 hb]; exact Nat.lt_trans hTlt (Nat.lt_of_succ_lt hlF)
    have h118 : 118 < s.heap.objs.size := Heap.lt_size (st.base _ _ (st.W.X 118 _ (by rfl)))
    refine ⟨s.heap.objs.size + 1, _, _, _, _, _, fun _ => true, fun i y => ∃ x u t, (items.filter pass)[i]? = some (.str x u) ∧ y = .str (Txt.strip x) t, rfl, (fun A' hA' => filterWalks hA' hTne hFne hsv), ⟨0, gF, gI, gT, by simp⟩, hfpb, st.W.T.nolimit.keeps hB₃, ?_, ?_, ?_⟩
    · intro hm
      have : cStatics = s.heap.objs.size := List.mem_singleton.1 hm
      exact absurd h118 (by rw [← this]; decide)
    · refine fun href hh => ⟨fun A' E' i v s₂ m₂ _ hP hn hm _ => wpAny_tests_nil ⟨rfl, keepsOf (Fro.refl _) fun _ _ e => e⟩, fun A' E' i v s₂ m₂ _ hP _ hn hm _ => ?_⟩
      obtain ⟨x, u, hx, rfl⟩ := strsAt (passedStrs hstr) hP
      have hxl : x.length ≤ 1000 := hlen x (List.mem_filter.1 (List.mem_of_getElem? hx)).1
      exact Call_method0 (by rfl) hp23 (ldG hn hm (SB.strip (fun t' k' => ⟨⟨x, u, t', hP, rfl⟩, keepsOf ⟨_, _, rfl⟩ fun _ _ e => e⟩) (by rw [sizeLine_eq]; omega)))
    · intro a h₅ tk gs hgb hag hsz₅ hk₅ Wg hat
      have hpass : passing (fun _ => true) (items.filter pass).length 0 = List.range (items.filter pass).length := by unfold passing; simp
      refine SC.joinGen Wg.in4_2 (fun i s' st => st.1.typeIs) hat (fun b hb => ?_) (List.mem_cons_self ..) (fun i v hv => ?_) (fun s' lt hm hacc => ?_) (by rw [hpass, List.length_range, sizeLine_eq]; omega)
      · show b < h₅.objs.size
        rw [hsz₅]
        rcases List.mem_cons.mp hb with rfl | hb
        · exact Nat.lt_succ_self _
        · rcases List.mem_cons.mp hb with rfl | hb
          · exact Nat.lt_succ_of_lt hag
          · exact Nat.lt_succ_of_lt (Nat.lt_trans (List.mem_range.mp hb) hag)
      · obtain ⟨_, _, x, u, t, _, rfl⟩ := hv; exact ⟨_, _, rfl⟩
      · have hsz : lt.length = (items.filter pass).length := by
          have := hacc.1
          rw [hpass, List.length_range] at this
          simpa [strValues] using this
        have hl : lt.map (·.1) = passed ts := by
          apply List.ext_getElem?
          intro j
          by_cases hj : j < lt.length
          · have hv := hacc.2 j (.str lt[j].1 lt[j].2) (by simp [strValues, List.getElem?_eq_getElem hj])
            obtain ⟨i, hi, x, u, t, hx, e⟩ := hv
            rw [hpass] at hi
            have hij : i = j := by
              have hj' : j < (items.filter pass).length := hsz ▸ hj
              rw [List.getElem?_range hj'] at hi; exact (Option.some.inj hi).symm
            subst hij
            obtain ⟨x', u', hx', e'⟩ := strsAt (passedStrs hstr) hx
            injection e' with e1 _
            injection e with e2 _
            unfold passed
            rw [List.getElem?_map, List.getElem?_map, hx', List.getElem?_eq_getElem hj]
            show some lt[i].1 = some (Txt.strip x')
            rw [e2, e1]
          · rw [List.getElem?_eq_none (by simpa using Nat.le_of_not_lt hj), List.getElem?_eq_none]
            unfold passed
            rw [List.length_map, ← hpl, ← hsz]; exact Nat.le_of_not_lt hj
        rw [hl]
        refine ⟨?_, fun t' k' => k t' { s' with toks := k' } ps' hm.os (fun hG => (hG.push hgb).moved hm.gens) htr₃ (st.mut0 ?_ fun b o hb e => ?_)⟩
        · unfold JoinOk
          have : Builtin.Str.tooLong ((passed ts).toArray.foldl (fun a p => a + p.length + Str.length "-") 0) = false := by
            refine StrLaws.joinFits (B := 1000) (fun y hy => ?_) ?_
            · unfold passed at hy
              obtain ⟨z, hz, rfl⟩ := List.mem_map.1 hy
              have h1 := hlen z (List.mem_filter.1 hz).1
              have h2 := len_strip z
              omega
            · have h2 : Str.length "-" = 1 := rfl
              have h3 : (passed ts).length ≤ 3 := by unfold passed; rw [List.length_map]; omega
              rw [h2]; omega
          simpa using this
        · have hC72 : (72 : Addr) ∉ (h₃.objs.size :: [s.heap.objs.size] : List Addr) := fun hm => by
            rcases List.mem_cons.1 hm with e | hm
            · exact Nat.ne_of_lt (Nat.lt_trans h72 (Nat.lt_of_succ_lt hlF)) e
            · exact hit72 (List.mem_singleton.1 hm).symm
          exact hm.heap 72 _ hC72 (hk₅ _ _ h72₃)
        · have hbl := Heap.lt_size e
          have hCb : b ∉ (h₃.objs.size :: [s.heap.objs.size] : List Addr) := fun hm => by
            rcases List.mem_cons.1 hm with e | hm
            · exact Nat.ne_of_lt (Nat.lt_trans hbl (Nat.lt_of_succ_lt hlF)) e
            · exact Nat.ne_of_lt hbl (List.mem_singleton.1 hm)
          exact hm.heap b _ hCb (hk₅ _ _ (hx₃ _ _ hb (kp _ _ e)))
end Mine
end

section
set_option linter.unusedVariables false
namespace Mine
open PySem.StrLaws PySem.Builtin.Str
/-- str.replace over lists of signs, read once from the left; n: fuel -/
def replN (y z : List Nat) : Nat → List Nat → List Nat
  | 0, l => l
  | n + 1, l => match l with
    | [] => []
    | c :: r => if y.isPrefixOf (c :: r) then z ++ replN y z n ((c :: r).drop y.length) else c :: replN y z n r
def repl (y z l : List Nat) : List Nat := replN y z l.length l
theorem replN_fuel (y z : List Nat) (hy : 1 ≤ y.length) : ∀ (n k : Nat) (l : List Nat), l.length ≤ n → l.length ≤ k → replN y z n l = replN y z k l := by
  intro n
  induction n with
  | zero =>
    intro k l h1 _
    have : l = [] := List.eq_nil_of_length_eq_zero (by omega)
    subst this
    cases k <;> rfl
  | succ n ih =>
    intro k l h1 h2
    cases l with
    | nil => cases k <;> rfl
    | cons c r =>
      cases k with
      | zero => simp at h2
      | succ k =>
        simp only [List.length_cons] at h1 h2
        simp only [replN]
        split
        · rw [ih k _ (by rw [List.length_drop, List.length_cons]; omega) (by rw [List.length_drop, List.length_cons]; omega)]
        · rw [ih k _ (by omega) (by omega)]
theorem repl_nil (y z : List Nat) : repl y z [] = [] := rfl
theorem repl_hit {y z l : List Nat} (hy : 1 ≤ y.length) (h : y.isPrefixOf l = true) : repl y z l = z ++ repl y z (l.drop y.length) := by
  cases l with
  | nil =>
    cases y with
    | nil => simp at hy
    | cons a b => simp [List.isPrefixOf] at h
  | cons c r =>
    unfold repl
    simp only [List.length_cons, replN, h, if_true]
    congr 1
    exact replN_fuel y z hy _ _ _ (by rw [List.length_drop, List.length_cons]; omega) (Nat.le_refl _)
theorem repl_miss {y z r : List Nat} {c : Nat} (h : y.isPrefixOf (c :: r) = false) : repl y z (c :: r) = c :: repl y z r := by
  unfold repl
  simp only [List.length_cons, replN, h, Bool.false_eq_true, if_false]
theorem len_toList (x : Str) : x.cps.toList.length = x.length := by rw [Array.length_toList]; rfl
theorem at_iff (x y : Str) (hy1 : 1 ≤ y.length) (k : Nat) : At x y x.length k ↔ y.cps.toList.isPrefixOf (x.cps.toList.drop k) = true := by
  have hx := len_toList x
  have hy := len_toList y
  unfold At
  rw [subAt_eq, List.isPrefixOf_iff_prefix, List.prefix_iff_eq_take, ← hy, ← hx]
  constructor
  · rintro ⟨h1, h2⟩
    exact (beq_iff_eq.1 h2).symm
  · intro h
    have hl := congrArg List.length h
    rw [List.length_take, List.length_drop] at hl
    exact ⟨by omega, beq_iff_eq.2 h.symm⟩
theorem scan (X Y Z : List Nat) : ∀ (d a c : Nat), c - a = d → a ≤ c → c ≤ X.length → (∀ k, a ≤ k → k < c → Y.isPrefixOf (X.drop k) = false) → repl Y Z (X.drop a) = (X.drop a).take (c - a) ++ repl Y Z (X.drop c) := by
  intro d
  induction d with
  | zero =>
    intro a c h1 h2 h3 h4
    have : a = c := by omega
    subst this
    simp
  | succ d ih =>
    intro a c h1 h2 h3 h4
    have ha : a < X.length := by omega
    have hm := h4 a (Nat.le_refl _) (by omega)
    rw [List.drop_eq_getElem_cons ha] at hm ⊢
    rw [repl_miss hm, ih (a + 1) c (by omega) (by omega) h3 (fun k k1 k2 => h4 k (by omega) k2)]
    have : c - a = (c - (a + 1)) + 1 := by omega
    rw [this, List.take_succ_cons]
    rfl
theorem join_cons2 (z p q : Str) (r : List Str) : Str.join z (p :: q :: r) = p ++ z ++ Str.join z (q :: r) := rfl
theorem chain_repl (x y z : Str) (hy1 : 1 ≤ y.length) : ∀ (cuts : List Nat) (a f : Nat), ChainG x y x.length a cuts f → (∀ k, f ≤ k → ¬ At x y x.length k) → a ≤ x.length →
    (Str.join z (partsFrom x y.length a cuts)).cps.toList = repl y.cps.toList z.cps.toList (x.cps.toList.drop a) := by
  have hx := len_toList x
  have hf : ∀ k, ¬ At x y x.length k → y.cps.toList.isPrefixOf (x.cps.toList.drop k) = false := fun k h => Bool.eq_false_iff.2 fun q => h ((at_iff x y hy1 k).2 q)
  intro cuts
  induction cuts with
  | nil =>
    intro a f h hn ha
    have e : f = a := h
    subst e
    show (strSub x f x.length).cps.toList = _
    rw [strSub_toList, scan _ _ _ _ f x.length rfl ha (by omega) fun k k1 k2 => hf k (hn k k1)]
    rw [← hx, List.drop_length, repl_nil, List.append_nil]
  | cons c r ih =>
    intro a f h hn ha
    obtain ⟨h1, h2, h3, h4⟩ := h
    have hc : c + y.length ≤ x.length := h2.1
    obtain ⟨p, q, hpq⟩ := partsFrom_ne x y.length (c + y.length) r
    show (Str.join z (strSub x a c :: partsFrom x y.length (c + y.length) r)).cps.toList = _
    have ih' := ih (c + y.length) f h4 hn hc
    rw [hpq] at ih' ⊢
    rw [join_cons2, Str.cps_append, Str.cps_append, Array.toList_append, Array.toList_append, ih', strSub_toList]
    rw [scan _ _ _ _ a c rfl h1 (by omega) fun k k1 k2 => hf k (h3 k k1 k2)]
    rw [repl_hit (by rw [len_toList]; exact hy1) ((at_iff x y hy1 c).1 h2), List.drop_drop, len_toList, List.append_assoc]
theorem rep_list (x y z : Str) (hy1 : 1 ≤ y.length) : (Txt.replace x y z).cps.toList = repl y.cps.toList z.cps.toList x.cps.toList := by
  obtain ⟨f, h1, h2⟩ := occ_tight x y hy1
  have key := chain_repl x y z hy1 _ 0 f h1 h2 (Nat.zero_le _)
  rw [List.drop_zero] at key
  rw [← key]
  unfold Txt.replace
  split
  · rename_i h
    have hy0 : (y.length == 0) = false := beq_eq_false_iff_ne.2 (by omega)
    rw [hy0, Bool.false_and, Bool.or_false, List.isEmpty_iff] at h
    rw [h]
    show x.cps.toList = (strSub x 0 x.length).cps.toList
    rw [sub_whole]
  · rw [glued_eq_join, partsBetween_eq]
theorem replN_le (y z : List Nat) (hyz : z.length ≤ y.length) (hy : 1 ≤ y.length) : ∀ (n : Nat) (l : List Nat), (replN y z n l).length ≤ l.length := by
  intro n
  induction n with
  | zero => intro l; exact Nat.le_refl _
  | succ n ih =>
    intro l
    cases l with
    | nil => exact Nat.le_refl _
    | cons c r =>
      simp only [replN]
      split
      · rename_i h
        have h1 := ih ((c :: r).drop y.length)
        have h2 := (List.isPrefixOf_iff_prefix.1 h).length_le
        rw [List.length_drop] at h1
        rw [List.length_append]
        omega
      · have := ih r
        simp only [List.length_cons]
        omega
theorem rep_le (x y z : Str) (hy1 : 1 ≤ y.length) (hz : z.length ≤ y.length) : (Txt.replace x y z).length ≤ x.length := by
  rw [← len_toList, ← len_toList, rep_list x y z hy1]
  exact replN_le _ _ (by rw [len_toList, len_toList]; exact hz) (by rw [len_toList]; exact hy1) _ _
theorem strEq {a b : Str} (h : a.cps.toList = b.cps.toList) : a = b := by
  cases a; cases b
  congr 1
  exact Array.toList_inj.1 h
end Mine
end

section
set_option linter.unusedVariables false
set_option maxRecDepth 100000
set_option maxHeartbeats 1000000
namespace Mine
variable {w : World} {mg mb : Str → Option Value} {B : Heap} {A : Around} {E : Value → Shared → Prop} {s : Shared} {S : Addr → Obj → Prop} {l : List (Addr × Obj)} {m : Str → Option Value} {env : Env} {M : Model}
theorem sLocT {x : Str} {v : Value} {Q : Unit → Shared → Prop} (t : St w mg mb B S l env.locals m s.heap)
    (h : ∀ s', Fro s s' → 1 ≤ s'.toks → St w mg mb B S l env.locals (upd m x v) s'.heap → Q () s')
    (hk : env.scope.kind = .function := by rfl) (hl : env.kindOf x = some .local := by rfl) :
    wpAny M A (storeName env x v) Q E s :=
  wpAny_storeName_local hl t.ns (fun h' hn hs => h _ (Fro.mk' _ _) (Nat.le_add_left 1 s.toks) (t.set hn hs)) (by rw [hk]; rfl)
theorem aNameT {x : Str} {p' pos : Pos} {value : Expr} {Q : Flow → Shared → Prop} (W : Wd w mg mb B)
    (h : wpAny M A (eval value env) (fun v s₁ => ∃ S' l' m', St w mg mb B S' l' env.locals m' s₁.heap ∧ ∀ s', Fro s₁ s' → 1 ≤ s'.toks → St w mg mb B S' l' env.locals (upd m' x v) s'.heap → Q .next s') E s)
    (hk : env.scope.kind = .function := by rfl) (hl : env.kindOf x = some .local := by rfl) (hs : swapsWith value (some (.Name x p')) pos.line env = pure false := by rfl) :
    wpAny M A (exec (.Assign [.Name x p'] value pos) env) Q E s :=
  wpAny_Assign_Name (wpAny_mono h (fun v s₁ ⟨S', l', m', t, k⟩ => sLocT t k hk hl) fun _ _ e => e) hs
/-- tgt = platform.replace(y, z) -/
theorem aRep {tgt x y z : Str} {t : Tok} {p1 p2 p3 p4 p5 p6 p7 : Pos} {Q : Flow → Shared → Prop} (st : St w mg mb B S l env.locals m s.heap) (hv : m "platform" = some (.str x t)) (htk : 1 ≤ s.toks) (hx : x.length ≤ 4000)
    (k : ∀ t' s', Fro s s' → 1 ≤ s'.toks → St w mg mb B S l env.locals (upd m tgt (.str (Txt.replace x y z) t')) s'.heap → Q .next s')
    (hz : z.length ≤ 14 := by decide) (hyz : (y == z) = false := by decide)
    (hline : (p2.endLine == p5.line) = true := by rfl) (hk : env.scope.kind = .function := by rfl) (hl : env.kindOf "platform" = some .local := by rfl) (ht : env.kindOf tgt = some .local := by rfl)
    (hb : attributeBase (.Name "platform" p1) "replace" env (eval (.Name "platform" p1) env) = eval (.Name "platform" p1) env := by rfl) :
    wpAny (model PR w) A (exec (.Assign [.Name tgt p6] (.Call (.Attribute (.Name "platform" p1) "replace" p2) [.Constant (.str y) 0 p3, .Constant (.str z) 0 p4] [] p5) p7) env) Q E s := by
  refine aNameT st.W (Call_method2 hb (by rfl) hline (eLoc st hv ?_ hk hl)) hk ht
  refine ⟨"str", "str.replace", PySem.F.plainAttrs_str, PySem.F.slot_str_replace, PySem.F.type_str_replace, typeIs_str _ _ _, (fun _ e => nomatch e), ?_⟩
  refine Calls.callWith_builtin rfl (Calls.evalArgs_plain (Calls.spliced_cons (wpAny_Constant_str (Calls.spliced_cons (wpAny_Constant_str (Calls.spliced_nil ?_))))))
  refine SC.replaceW (by show s.toks ≠ 0; omega) (by show s.toks + 1 ≠ 0; omega) (by show s.toks ≠ s.toks + 1; omega) hyz (by omega) hz fun t' k' => ⟨S, l, m, st, fun s' f h1 st' => k t' s' (Fro.trans ⟨_, _, rfl⟩ f) h1 st'⟩
inductive Coll : Str → Str → Prop
  | stop (x : Str) : Txt.replace x "--" "-" = x → Coll x x
  | step (x y : Str) : Coll (Txt.replace x "--" "-") y → Coll x y
theorem replN_lt (y z : List Nat) (hyz : z.length < y.length) (hy : 1 ≤ y.length) : ∀ (n : Nat) (l : List Nat), replN y z n l = l ∨ (replN y z n l).length < l.length := by
  intro n
  induction n with
  | zero => intro l; exact .inl rfl
  | succ n ih =>
    intro l
    cases l with
    | nil => exact .inl rfl
    | cons c r =>
      simp only [replN]
      split
      · rename_i h
        have h1 := replN_le y z (by omega) hy n ((c :: r).drop y.length)
        have h2 := (List.isPrefixOf_iff_prefix.1 h).length_le
        rw [List.length_drop] at h1
        refine .inr ?_
        rw [List.length_append]
        omega
      · rcases ih r with e | e
        · exact .inl (by rw [e])
        · exact .inr (by simp only [List.length_cons]; omega)
theorem dash_lt (x : Str) (h : Txt.replace x "--" "-" ≠ x) : (Txt.replace x "--" "-").length < x.length := by
  have e := rep_list x "--" "-" (by decide)
  rcases replN_lt (Str.ofString "--").cps.toList (Str.ofString "-").cps.toList (by decide +kernel) (by decide +kernel) x.cps.toList.length x.cps.toList with q | q
  · exact absurd (strEq (e.trans q)) h
  · rw [← len_toList, ← len_toList x, e]; exact q
theorem while1 {x0 : Str} {t0 : Tok} {p0 p1 p2 p3 p4 p5 p6 p7 q1 q2 q3 q4 q5 r1 r2 r3 : Pos} {R : Result → Shared → Prop}
    (st : St w mg mb B S l env.locals m s.heap) (hv : m "platform" = some (.str x0 t0)) (htk : 1 ≤ s.toks) (hx : x0.length ≤ 4000)
    (k : ∀ y t s' m', Fro s s' → 1 ≤ s'.toks → Coll x0 y → y.length ≤ 4000 → St w mg mb B S l env.locals m' s'.heap → m' "platform" = some (.str y t) → R (.ok .next) s')
    (hline : (p2.endLine == p5.line) = true := by rfl) (hk : env.scope.kind = .function := by rfl) (hl : env.kindOf "platform" = some .local := by rfl) (hl2 : env.kindOf "cleaned" = some .local := by rfl)
    (hb : attributeBase (.Name "platform" p1) "replace" env (eval (.Name "platform" p1) env) = eval (.Name "platform" p1) env := by rfl) :
    codeAny (model PR w) A (.whileLoop (.Constant (.bool true) 0 p0) [.Assign [.Name "cleaned" p6] (.Call (.Attribute (.Name "platform" p1) "replace" p2) [.Constant (.str "--") 0 p3, .Constant (.str "-") 0 p4] [] p5) p7,
      .If (.Compare (.Name "cleaned" q1) [.Eq] [.Name "platform" q2] q3) [.Break q4] [] q5, .Assign [.Name "platform" r1] (.Name "cleaned" r2) r3] [] env) R s := by
  refine codeAny_whileLoop (fun n s' => ∃ x t m', Fro s s' ∧ 1 ≤ s'.toks ∧ n = x.length ∧ x.length ≤ 4000 ∧ (∀ y, Coll x y → Coll x0 y) ∧ St w mg mb B S l env.locals m' s'.heap ∧ m' "platform" = some (.str x t)) ?_ x0.length
    ⟨x0, t0, m, Fro.refl _, htk, rfl, hx, fun _ h => h, st, hv⟩
  rintro n s₁ ⟨x, t, m', f₁, h1, rfl, hxl, hc, st₁, hv₁⟩
  refine wpAny_isTrue_value (wpAny_pure (wpAny_truthy_bool ?_))
  refine wpAny_execs_cons (aRep st₁ hv₁ h1 hxl (fun t₂ s₂ f₂ h2 st₂ => ?_) (by decide) (by decide) hline hk hl hl2 hb)
  refine wpAny_execs_cons (wpAny_If (wpAny_isTrue_Compare1 (eLoc st₂ (v := .str (Txt.replace x "--" "-") t₂) (by rfl) (eLoc st₂ (v := .str x t) (by exact hv₁) (eq_str (wpAny_truthy_bool ?_)) hk hl) hk hl2)))
  rw [strB]
  by_cases e : Txt.replace x "--" "-" = x
  · rw [decide_eq_true e]
    refine wpAny_execs_cons (wpAny_Break ?_)
    exact k x t _ _ (f₁.trans f₂.fin) h2 (hc x (.stop x e)) hxl st₂ hv₁
  · rw [decide_eq_false e]
    refine wpAny_execs_nil ?_
    have hlt := dash_lt x e
    refine wpAny_execs_cons (aNameT st.W (eLoc (s := s₂) st₂ (v := .str (Txt.replace x "--" "-") t₂) (by rfl) ⟨_, _, _, st₂, fun s₃ f₃ h3 st₃ => wpAny_execs_nil ?_⟩ hk hl2) hk hl)
    exact ⟨_, hlt, Txt.replace x "--" "-", t₂, _, f₁.trans (f₂.trans f₃), h3, rfl, by omega, fun y q => hc y (.step x y q), st₃, rfl⟩
end Mine
end

section
set_option linter.unusedVariables false
set_option maxRecDepth 100000
set_option maxHeartbeats 1000000
namespace Mine
variable {w : World} {mg mb : Str → Option Value} {B : Heap} {A : Around} {E : Value → Shared → Prop} {s : Shared} {S : Addr → Obj → Prop} {l : List (Addr × Obj)} {m : Str → Option Value} {env : Env} {M : Model}
def trimE (l : List Nat) : List Nat := (l.reverse.dropWhile fun c => c == 45).reverse
theorem trimE_nil : trimE [] = [] := rfl
theorem trimE_dash (l : List Nat) : trimE (l ++ [45]) = trimE l := by unfold trimE; rw [List.reverse_append]; rfl
theorem trimE_other (l : List Nat) {c : Nat} (h : c ≠ 45) : trimE (l ++ [c]) = l ++ [c] := by
  unfold trimE
  rw [List.reverse_append]
  show ((c :: l.reverse).dropWhile _).reverse = _
  rw [List.dropWhile_cons, if_neg (by simpa using h)]
  simp
theorem lastSplit (x : Str) (h : x.length ≠ 0) : ∃ r c, x.cps.toList = r ++ [c] := by
  have hne : x.cps.toList ≠ [] := fun e => h (by rw [← len_toList, e]; rfl)
  exact ⟨x.cps.toList.dropLast, x.cps.toList.getLast hne, (List.dropLast_concat_getLast hne).symm⟩
theorem slice_last (x : Str) {r : List Nat} {c : Nat} (h : x.cps.toList = r ++ [c]) : (Txt.slice x none (some (-1))).cps.toList = r := by
  have hl : x.length = r.length + 1 := by rw [← len_toList, h]; simp
  have e : Txt.slice x none (some (-1)) = StrLaws.sliceText x none (some (-1)) := rfl
  rw [e, StrLaws.sliceText_to_neg (by decide) (by omega)]
  show ((x.cps.toList.drop 0).take (-1 + (x.length : Int) - 0).toNat) = r
  have e2 : (-1 + (x.length : Int) - 0).toNat = r.length := by omega
  rw [e2, h, List.drop_zero]; simp
theorem item_last (x : Str) {r : List Nat} {c : Nat} (h : x.cps.toList = r ++ [c]) : Txt.charAt x (-1) = some c := by
  have hl : x.length = r.length + 1 := by rw [← len_toList, h]; simp
  unfold Txt.charAt
  refine StrLaws.at_neg (by decide) (by omega) ?_
  have e2 : (-1 + (x.length : Int)).toNat = r.length := by omega
  rw [e2, ← Array.getElem?_toList, h]; simp
theorem while2 {x0 : Str} {t0 : Tok} {p1 p2 p3 p4 p5 p6 p7 p8 q1 q2 q3 q4 q5 q6 q7 : Pos} {R : Result → Shared → Prop}
    (st : St w mg mb B S l env.locals m s.heap) (hv : m "platform" = some (.str x0 t0)) (hx : x0.length ≤ 4000)
    (k : ∀ y t s' m', Fro s s' → y.cps.toList = trimE x0.cps.toList → St w mg mb B S l env.locals m' s'.heap → m' "platform" = some (.str y t) → R (.ok .next) s')
    (hk : env.scope.kind = .function := by rfl) (hl : env.kindOf "platform" = some .local := by rfl) :
    codeAny (model PR w) A (.whileLoop (.BoolOp .And [.Name "platform" p1, .Compare (.Subscript (.Name "platform" p2) (.UnaryOp .USub (.Constant (.int 1) 0 p3) p4) p5) [.Eq] [.Constant (.str "-") 0 p6] p7] p8)
      [.Assign [.Name "platform" q1] (.Subscript (.Name "platform" q2) (.Slice none (some (.UnaryOp .USub (.Constant (.int 1) 0 q3) q4)) none q5) q6) q7] [] env) R s := by
  refine codeAny_whileLoop (fun n s' => ∃ x t m', Fro s s' ∧ n = x.length ∧ x.length ≤ 4000 ∧ trimE x.cps.toList = trimE x0.cps.toList ∧ St w mg mb B S l env.locals m' s'.heap ∧ m' "platform" = some (.str x t)) ?_ x0.length
    ⟨x0, t0, m, Fro.refl _, rfl, hx, rfl, st, hv⟩
  rintro n s₁ ⟨x, t, m', f₁, rfl, hxl, hc, st₁, hv₁⟩
  refine wpAny_isTrue_BoolOp (wpAny_allTrue_And_cons (wpAny_isTrue_value (eLoc st₁ hv₁ (P.truthy_str (by omega) ?_) hk hl)))
  by_cases h0 : x.length = 0
  · rw [show (((x.length : Nat) : Int) != 0) = false from by rw [h0]; rfl]
    refine wpAny_execs_nil ?_
    have hnil : x.cps.toList = [] := List.eq_nil_of_length_eq_zero (by rw [len_toList]; exact h0)
    exact k x t _ _ f₁.fin (by rw [← hc, hnil]; rfl) st₁ hv₁
  · rw [show (((x.length : Nat) : Int) != 0) = true from bne_iff_ne.2 (by omega)]
    obtain ⟨r, c, hrc⟩ := lastSplit x h0
    have hitem : Txt.item x (-1) = ⟨#[c]⟩ := by unfold Txt.item; rw [item_last x hrc]; rfl
    refine wpAny_allTrue_And_cons (wpAny_isTrue_Compare1 (Subscript_ (eLoc (s := { s₁ with toks := s₁.toks + 1 + 1 }) st₁ hv₁ (UnaryOp_ (wpAny_Constant_int (P.neg_int ?_))) hk hl)))
    refine tail_of_ItemOn (SB.item (by decide) (by rw [item_last x hrc]; rfl) ?_) (by with_unfolding_all rfl) (by intro _; with_unfolding_all rfl)
    refine wpAny_Constant_str (eq_str (wpAny_truthy_bool ?_))
    rw [hitem, strB]
    have hdash : ((⟨#[c]⟩ : Str) = "-") ↔ c = 45 := by
      rw [show (Str.ofString "-") = ⟨#[45]⟩ from by decide +kernel]
      constructor
      · intro h; injection h with h; injection h with h; injection h
      · rintro rfl; rfl
    by_cases h45 : c = 45
    · rw [decide_eq_true (hdash.2 h45)]
      refine wpAny_allTrue_And_nil ?_
      have hsl := slice_last x hrc
      refine wpAny_execs_cons (aName st.W (Subscript_ (eLoc (s := { s₁ with toks := s₁.toks + 1 + 1 + 1 + 1 + 1 + 1 }) st₁ hv₁ (wpAny_Slice (wpAny_pure (UnaryOp_ (wpAny_Constant_int (P.neg_int (wpAny_pure ?_)))))) hk hl)) hk hl)
      refine slStr_ns (s := { s₁ with toks := s₁.toks + 1 + 1 + 1 + 1 + 1 + 1 + 1 + 1 }) st₁ (fun t₂ s₂ f₂ st₂ => ⟨_, _, _, st₂, fun s₃ f₃ st₃ => wpAny_execs_nil ?_⟩) (by rw [sizeLine_eq]; omega)
      have hlen : (Txt.slice x none (some (-1))).length < x.length := by rw [← len_toList, hsl, ← len_toList x, hrc]; simp
      refine ⟨_, hlen, Txt.slice x none (some (-1)), t₂, _, f₁.trans (Fro.trans (Fro.trans ⟨_, _, rfl⟩ f₂) f₃), rfl, by omega, ?_, st₃, rfl⟩
      rw [hsl, ← hc, hrc, h45, trimE_dash]
    · rw [decide_eq_false fun q => h45 (hdash.1 q)]
      refine wpAny_execs_nil ?_
      exact k x t _ _ f₁.fin (by rw [← hc, hrc, trimE_other r h45]) st₁ hv₁
end Mine
end

section
set_option linter.unusedVariables false
set_option maxRecDepth 100000
set_option maxHeartbeats 1000000
namespace Mine
variable {w : World} {mg mb : Str → Option Value} {B : Heap} {A : Around} {E : Value → Shared → Prop} {s : Shared} {S : Addr → Obj → Prop} {l : List (Addr × Obj)} {m : Str → Option Value} {env : Env} {M : Model}
/-- the replacements in their order -/
def reps (x : Str) : Str :=
  Txt.replace (Txt.replace (Txt.replace (Txt.replace (Txt.replace (Txt.replace (Txt.replace (Txt.replace (Txt.replace x " " "_") "/" "-") "\\" "-") ":" "-") ";" "-") "\"" "-") "(" "-") ")" "-") "unknown" ""
/-- what _platform may give -/
def PlatR (ts : List Str) (y : Str) : Prop := ∃ c, Coll (reps (Txt.join "-" (passed ts))) c ∧ y.cps.toList = trimE c.cps.toList
/-- the table of inner codes of _platform -/
def TabI (h : Heap) : Prop := ∃ ps : Array Value, h.get? 72 = some (tabObj ps) ∧ TriplesOk ps.toList
/-- what is kept but for that table -/
abbrev KpT (h h' : Heap) : Prop := ∀ b o, b ≠ 72 → h.get? b = some o → h'.get? b = some o
theorem join_len (ts : List Str) (hlen : ∀ t ∈ ts, t.length ≤ 1000) (hn : ts.length ≤ 3) : (Txt.join "-" (passed ts)).length ≤ 4000 := by
  have h2 := StrLaws.join_length_le "-" (passed ts)
  have h3 : Txt.join "-" (passed ts) = Str.join "-" (passed ts) := StrLaws.glued_eq_join _ _
  have h4 := StrLaws.sumLen_le (B := 1000) (passed ts) fun y hy => by
    unfold passed at hy
    obtain ⟨z, hz, rfl⟩ := List.mem_map.1 hy
    have h1 := hlen z (List.mem_filter.1 hz).1
    have h2 := len_strip z
    omega
  have h5 : (passed ts).length ≤ 3 := by
    unfold passed; rw [List.length_map]
    have := List.length_filter_le (fun t : Str => !(t.length == 0)) ts
    omega
  have h6 : Str.length "-" = 1 := rfl
  rw [h6] at h2
  rw [h3]; omega
theorem c_platform {x y z : Str} {u v t : Tok} {Q : Value → Shared → Prop} (hA : OkA A 4) (W : Wd w mg mb B) (hB : Kp B s.heap) (hT : TabI s.heap) (hx : x.length ≤ 1000) (hy : y.length ≤ 1000) (hz : z.length ≤ 1000)
    (k : ∀ r t s', s'.os = s.os → (AllBare s.gens → AllBare s'.gens) → KpT s.heap s'.heap → TabI s'.heap → PlatR [x, y, z] r → Q (.str r t) s') :
    wpAny (model PR w) A (call (.ref 77) [.str x u, .str y v, .str z t]) Q E s := by
  obtain ⟨ps, hps, htr⟩ := hT
  refine callV (n := 3) hA W hB hps (by rfl) (by rfl) (by rfl) (by rfl) (by simp) (by rfl) (by decide) (by rfl) ?_
  intro s₁ S₁ L f₁ hS₁ hT₁ st hA
  have hlen : ∀ t ∈ [x, y, z], t.length ≤ 1000 := fun t ht => by
    have : t = x ∨ t = y ∨ t = z := by simpa using ht
    rcases this with rfl | rfl | rfl <;> assumption
  have hj := join_len [x, y, z] hlen (by simp)
  refine wpAny_execs_cons (aNameT W (Call_method1 (by rfl) (by rfl) (by rfl) (wpAny_Constant_str (mJoin ?_))))
  refine eGenJoin (s := { s₁ with toks := s₁.toks + 1 }) (hA.le (by decide)) st htr (by rfl) (by rfl) hT₁ (.cons x u (.cons y v (.cons z t .nil))) hlen (by simp) (by rfl) fun t₂ s₂ ps₂ ho hg htr₂ st₂ => ?_
  refine ⟨_, _, _, st₂, fun s₃ f₃ h3 st₃ => ?_⟩
  generalize hj0 : Txt.join "-" (passed [x, y, z]) = j0 at st₃ hj
  refine wpAny_execs_cons (aRep st₃ (by rfl) h3 hj fun t20 s20 f20 g20 st20 => ?_)
  have l20 := rep_le j0 " " "_" (by decide) (by decide)
  generalize hy20 : Txt.replace j0 " " "_" = y20 at st20 l20
  refine wpAny_execs_cons (aRep st20 (by rfl) g20 (by omega) fun t21 s21 f21 g21 st21 => ?_)
  have l21 := rep_le y20 "/" "-" (by decide) (by decide)
  generalize hy21 : Txt.replace y20 "/" "-" = y21 at st21 l21
  refine wpAny_execs_cons (aRep st21 (by rfl) g21 (by omega) fun t22 s22 f22 g22 st22 => ?_)
  have l22 := rep_le y21 "\\" "-" (by decide) (by decide)
  generalize hy22 : Txt.replace y21 "\\" "-" = y22 at st22 l22
  refine wpAny_execs_cons (aRep st22 (by rfl) g22 (by omega) fun t23 s23 f23 g23 st23 => ?_)
  have l23 := rep_le y22 ":" "-" (by decide) (by decide)
  generalize hy23 : Txt.replace y22 ":" "-" = y23 at st23 l23
  refine wpAny_execs_cons (aRep st23 (by rfl) g23 (by omega) fun t24 s24 f24 g24 st24 => ?_)
  have l24 := rep_le y23 ";" "-" (by decide) (by decide)
  generalize hy24 : Txt.replace y23 ";" "-" = y24 at st24 l24
  refine wpAny_execs_cons (aRep st24 (by rfl) g24 (by omega) fun t25 s25 f25 g25 st25 => ?_)
  have l25 := rep_le y24 "\"" "-" (by decide) (by decide)
  generalize hy25 : Txt.replace y24 "\"" "-" = y25 at st25 l25
  refine wpAny_execs_cons (aRep st25 (by rfl) g25 (by omega) fun t26 s26 f26 g26 st26 => ?_)
  have l26 := rep_le y25 "(" "-" (by decide) (by decide)
  generalize hy26 : Txt.replace y25 "(" "-" = y26 at st26 l26
  refine wpAny_execs_cons (aRep st26 (by rfl) g26 (by omega) fun t27 s27 f27 g27 st27 => ?_)
  have l27 := rep_le y26 ")" "-" (by decide) (by decide)
  generalize hy27 : Txt.replace y26 ")" "-" = y27 at st27 l27
  refine wpAny_execs_cons (aRep st27 (by rfl) g27 (by omega) fun t28 s28 f28 g28 st28 => ?_)
  have l28 := rep_le y27 "unknown" "" (by decide) (by decide)
  generalize hy28 : Txt.replace y27 "unknown" "" = y28 at st28 l28
  have hreps : reps (Txt.join "-" (passed [x, y, z])) = y28 := by
    unfold reps
    rw [hj0, hy20, hy21, hy22, hy23, hy24, hy25, hy26, hy27, hy28]
  refine wpAny_execs_cons (wpAny_While (while1 st28 (by rfl) g28 (by omega) fun c tc s₄ m₄ f₄ g₄ hc hcl st₄ hm₄ => ?_))
  refine wpAny_execs_cons (wpAny_While (while2 st₄ hm₄ hcl fun r tr s₅ m₅ f₅ hr st₅ hm₅ => ?_))
  refine wpAny_execs_cons (wpAny_Return_some (eLoc st₅ hm₅ ?_))
  have hF : Fro s₂ s₅ := f₃.trans (f20.trans (f21.trans (f22.trans (f23.trans (f24.trans (f25.trans (f26.trans (f27.trans (f28.trans (f₄.trans f₅))))))))))
  obtain ⟨h₀, tk₀, e₁⟩ := f₁
  obtain ⟨h₆, tk₆, e₆⟩ := hF
  refine k r tr s₅ ?_ ?_ (fun b o hb e => st₅.keep b o (hS₁ b o hb e)) ⟨ps₂, st₅.at0, htr₂⟩ ⟨c, by rw [hreps]; exact hc, hr⟩
  · rw [e₆]; show s₂.os = s.os; rw [ho, e₁]
  · intro hG
    rw [e₆]
    show AllBare s₂.gens
    exact hg (by rw [e₁]; exact hG)
end Mine
end

section
set_option linter.unusedVariables false
namespace Mine
open PySem.StrLaws PySem.Builtin.Str
theorem at_slash (x : Str) (k : Nat) : At x "/" x.length k ↔ x.cps.toList[k]? = some 47 := by
  have e : (Str.ofString "/") = ⟨#[47]⟩ := by decide +kernel
  rw [e]
  exact subAt_one x 47 k
theorem join_last (path : List Str) (p : Str) (hp : path.getLast? = some p) : (Str.join "/" path).cps.toList = p.cps.toList ∨ ∃ f, (Str.join "/" path).cps.toList = f ++ 47 :: p.cps.toList := by
  induction path with
  | nil => cases hp
  | cons a r ih =>
    cases r with
    | nil => cases hp; exact .inl rfl
    | cons b r' =>
      have hp' : (b :: r').getLast? = some p := by rw [← hp]; rfl
      have e : (Str.join "/" (a :: b :: r')).cps.toList = a.cps.toList ++ 47 :: (Str.join "/" (b :: r')).cps.toList := by
        rw [join_cons2, Str.cps_append, Str.cps_append, Array.toList_append, Array.toList_append]
        rw [show (Str.ofString "/").cps.toList = [47] from by decide +kernel]
        simp
      right
      rcases ih hp' with h | ⟨f, h⟩
      · exact ⟨a.cps.toList, by rw [e, h]⟩
      · exact ⟨a.cps.toList ++ 47 :: f, by rw [e, h]; simp⟩
theorem slice_from (x : Str) {i : Nat} (h : i ≤ x.length) : (Txt.slice x (some (i : Int)) none).cps.toList = x.cps.toList.drop i := by
  have e : Txt.slice x (some (i : Int)) none = sliceText x (some (i : Int)) none := rfl
  rw [e, sliceText_from ⟨by omega, by rw [len_toList]; omega⟩]
  show ((x.cps.toList.drop (i : Int).toNat).take ((x.cps.toList.length : Int) - (i : Int)).toNat) = _
  have e1 : ((i : Nat) : Int).toNat = i := by omega
  rw [e1]
  apply List.take_of_length_le
  rw [List.length_drop]; omega
theorem base_last (x p : Str) (hp : 47 ∉ p.cps.toList) (h : x.cps.toList = p.cps.toList ∨ ∃ f, x.cps.toList = f ++ 47 :: p.cps.toList) : Txt.slice x (some (Txt.rfind x "/" + 1)) none = p := by
  apply strEq
  rcases h with h | ⟨f, h⟩
  · rcases last_spec x "/" with ⟨h1, h2⟩ | ⟨i, h1, h2, h3⟩
    · have e : Txt.rfind x "/" = -1 := by unfold Txt.rfind; rw [h1]
      rw [e, show (-1 + 1 : Int) = ((0 : Nat) : Int) from rfl, slice_from x (Nat.zero_le _), h]; rfl
    · have := (at_slash x i).1 h2
      rw [h] at this
      exact absurd (List.mem_of_getElem? this) hp
  · have hl : x.length = f.length + 1 + p.cps.toList.length := by rw [← len_toList, h]; simp; omega
    rcases last_spec x "/" with ⟨h1, h2⟩ | ⟨i, h1, h2, h3⟩
    · exact absurd ((at_slash x f.length).2 (by rw [h]; simp)) (h2 _)
    · have hi := (at_slash x i).1 h2
      have hif : i = f.length := by
        rcases Nat.lt_trichotomy i f.length with q | q | q
        · exact absurd ((at_slash x f.length).2 (by rw [h]; simp)) (h3 _ q)
        · exact q
        · rw [h, List.getElem?_append_right (by omega)] at hi
          have e : i - f.length = (i - f.length - 1) + 1 := by omega
          rw [e, List.getElem?_cons_succ] at hi
          exact absurd (List.mem_of_getElem? hi) hp
      have e : Txt.rfind x "/" = (i : Int) := by unfold Txt.rfind; rw [h1]
      rw [e, show ((i : Int) + 1) = ((i + 1 : Nat) : Int) from rfl, slice_from x (by omega), h, hif]
      rw [List.drop_append]
      simp
theorem base_join (path : List Str) (p : Str) (hp : path.getLast? = some p) (h47 : 47 ∉ p.cps.toList) : Txt.slice (Txt.join "/" path) (some (Txt.rfind (Txt.join "/" path) "/" + 1)) none = p := by
  have e : Txt.join "/" path = Str.join "/" path := glued_eq_join _ _
  rw [e]
  exact base_last _ p h47 (join_last path p hp)
end Mine
end

section
set_option linter.unusedVariables false
namespace Mine
/-- one hyphen between two -/
def inter : List (List Nat) → List Nat
  | [] => []
  | [a] => a
  | a :: b :: r => a ++ 45 :: inter (b :: r)
theorem inter_cons {a : List Nat} {r : List (List Nat)} (h : r ≠ []) : inter (a :: r) = a ++ 45 :: inter r := by
  cases r with
  | nil => exact absurd rfl h
  | cons b r => rfl
theorem inter_app {A B : List (List Nat)} (hA : A ≠ []) (hB : B ≠ []) : inter (A ++ B) = inter A ++ 45 :: inter B := by
  induction A with
  | nil => exact absurd rfl hA
  | cons a r ih =>
    cases r with
    | nil => exact inter_cons hB
    | cons b r' =>
      rw [List.cons_append, inter_cons (by simp), ih (by simp), show inter (a :: b :: r') = a ++ 45 :: inter (b :: r') from rfl]
      simp
/-- the words that are not empty, cur the one begun -/
def toks : List Nat → List Nat → List (List Nat)
  | cur, [] => if cur = [] then [] else [cur]
  | cur, c :: r => if c = 45 then (if cur = [] then [] else [cur]) ++ toks [] r else toks (cur ++ [c]) r
theorem toks_dash (cur r : List Nat) : toks cur (45 :: r) = (if cur = [] then [] else [cur]) ++ toks [] r := by simp [toks]
theorem toks_other {c : Nat} (h : c ≠ 45) (cur r : List Nat) : toks cur (c :: r) = toks (cur ++ [c]) r := by simp [toks, h]
theorem toks_free (a : List Nat) (h : 45 ∉ a) : ∀ cur r, toks cur (a ++ r) = toks (cur ++ a) r := by
  induction a with
  | nil => intro cur r; simp
  | cons c a ih =>
    intro cur r
    rw [List.mem_cons, not_or] at h
    rw [List.cons_append, toks_other (fun e => h.1 e.symm), ih h.2, List.append_assoc]; rfl
theorem toks_inter (W : List (List Nat)) (hf : ∀ a ∈ W, 45 ∉ a) (hW : W ≠ []) : toks [] (inter W) = W.filter fun a => decide (a ≠ []) := by
  have emit : ∀ a : List Nat, (if a = [] then ([] : List (List Nat)) else [a]) = [a].filter fun a => decide (a ≠ []) := fun a => by by_cases e : a = [] <;> simp [e]
  induction W with
  | nil => exact absurd rfl hW
  | cons a r ih =>
    have ha := hf a (List.mem_cons_self ..)
    cases r with
    | nil =>
      show toks [] a = _
      have := toks_free a ha [] []
      rw [List.append_nil, List.nil_append] at this
      rw [this]
      show (if a = [] then [] else [a]) = _
      exact emit a
    | cons b r' =>
      rw [inter_cons (by simp), toks_free a ha, List.nil_append, toks_dash, ih (fun x hx => hf x (List.mem_cons_of_mem _ hx)) (by simp), emit a, ← List.filter_append]
      rfl
abbrev DD : List Nat := [45, 45]
abbrev D1 : List Nat := [45]
theorem toks_repl (n : Nat) : ∀ (l : List Nat), l.length ≤ n → ∀ cur, toks cur (repl DD D1 l) = toks cur l := by
  induction n with
  | zero =>
    intro l h cur
    have : l = [] := List.eq_nil_of_length_eq_zero (by omega)
    subst this; rfl
  | succ n ih =>
    intro l h cur
    cases l with
    | nil => rfl
    | cons c r =>
      cases hp : DD.isPrefixOf (c :: r) with
      | true =>
        cases r with
        | nil => simp [List.isPrefixOf] at hp
        | cons d r' =>
          have hcd : c = 45 ∧ d = 45 := by simp [List.isPrefixOf] at hp; exact ⟨hp.1.symm, hp.2.symm⟩
          rw [repl_hit (by decide) hp, hcd.1, hcd.2]
          show toks cur (45 :: repl DD D1 r') = _
          rw [toks_dash, toks_dash, toks_dash, ih r' (by simp at h; omega)]
          simp
      | false =>
        rw [repl_miss hp]
        simp only [toks]
        rw [ih r (by simp at h; omega), ih r (by simp at h; omega)]
theorem head_repl (l : List Nat) : (repl DD D1 l).head? = l.head? := by
  cases l with
  | nil => rfl
  | cons c r =>
    cases hp : DD.isPrefixOf (c :: r) with
    | true =>
      rw [repl_hit (by decide) hp]
      have : c = 45 := by cases r <;> simp [List.isPrefixOf] at hp; exact hp.1.symm
      rw [this]; rfl
    | false => rw [repl_miss hp]; rfl
/-- no two hyphens side by side -/
def noDD : List Nat → Prop
  | [] => True
  | c :: r => ¬ (c = 45 ∧ r.head? = some 45) ∧ noDD r
theorem noDD_of (l : List Nat) (h : repl DD D1 l = l) : noDD l := by
  induction l with
  | nil => trivial
  | cons c r ih =>
    cases hp : DD.isPrefixOf (c :: r) with
    | true =>
      have h2 := congrArg List.length h
      rw [repl_hit (by decide) hp] at h2
      have h3 := replN_le DD D1 (by decide) (by decide) (((c :: r).drop DD.length).length) ((c :: r).drop DD.length)
      have h4 : (repl DD D1 ((c :: r).drop DD.length)).length ≤ ((c :: r).drop DD.length).length := h3
      rw [List.length_append, List.length_cons] at h2
      rw [List.length_drop, List.length_cons] at h4
      have h5 := (List.isPrefixOf_iff_prefix.1 hp).length_le
      simp only [List.length_cons, List.length_nil] at h2 h4 h5
      omega
    | false =>
      rw [repl_miss hp] at h
      refine ⟨fun q => ?_, ih (List.cons.inj h).2⟩
      obtain ⟨rfl, q2⟩ := q
      cases r with
      | nil => cases q2
      | cons d r' =>
        have : d = 45 := Option.some.inj q2
        subst this
        simp [List.isPrefixOf] at hp
theorem trimE_app (a b : List Nat) (h : trimE b ≠ []) : trimE (a ++ b) = a ++ trimE b := by
  unfold trimE at h ⊢
  rw [List.reverse_append]
  have h' : b.reverse.dropWhile (fun c => c == 45) ≠ [] := fun e => h (by rw [e]; rfl)
  rw [List.dropWhile_append, if_neg (by simpa [List.isEmpty_iff] using h'), List.reverse_append, List.reverse_reverse]
theorem trimE_free (a : List Nat) (h : 45 ∉ a) : trimE a = a := by
  rcases List.eq_nil_or_concat a with rfl | ⟨r, c, rfl⟩
  · rfl
  · rw [List.concat_eq_append] at h ⊢
    exact trimE_other r (fun e => h (by rw [e]; simp))
theorem trim_toks (n : Nat) : ∀ c : List Nat, c.length ≤ n → ∀ cur, cur ≠ [] → 45 ∉ cur → noDD c → trimE (cur ++ c) = inter (toks cur c) ∧ toks cur c ≠ [] ∧ inter (toks cur c) ≠ [] := by
  induction n with
  | zero =>
    intro c hn cur h1 h2 _
    have : c = [] := List.eq_nil_of_length_eq_zero (by omega)
    subst this
    rw [List.append_nil, trimE_free cur h2]
    simp only [toks, if_neg h1]
    exact ⟨rfl, by simp, h1⟩
  | succ n ih =>
    intro c hn cur h1 h2 h3
    cases c with
    | nil =>
      rw [List.append_nil, trimE_free cur h2]
      simp only [toks, if_neg h1]
      exact ⟨rfl, by simp, h1⟩
    | cons d r =>
      by_cases hd : d = 45
      · subst hd
        rw [toks_dash, if_neg h1]
        cases r with
        | nil =>
          rw [trimE_dash, trimE_free cur h2]
          exact ⟨rfl, by simp [toks], by simpa [toks, inter] using h1⟩
        | cons e r' =>
          have he : e ≠ 45 := fun q => h3.1 ⟨rfl, by rw [q]; rfl⟩
          obtain ⟨i1, i2, i3⟩ := ih r' (by simp at hn; omega) [e] (by simp) (by simpa using fun q => he q.symm) h3.2.2
          rw [toks_other he, List.nil_append]
          have e1 : cur ++ 45 :: e :: r' = (cur ++ [45]) ++ ([e] ++ r') := by simp
          rw [e1, trimE_app _ _ (by rw [i1]; exact i3), i1]
          show cur ++ [45] ++ inter (toks [e] r') = inter (cur :: toks [e] r') ∧ _
          rw [inter_cons i2]
          refine ⟨by simp, by simp, ?_⟩
          show inter (cur :: toks [e] r') ≠ []
          rw [inter_cons i2]; simp
      · rw [toks_other hd]
        have := ih r (by simp at hn; omega) (cur ++ [d]) (by simp) (by simpa using ⟨h2, fun e => hd e.symm⟩) h3.2
        rw [List.append_assoc] at this
        exact this
theorem trim_all (c : List Nat) (h : noDD c) (hw : toks [] c ≠ []) : trimE c = (if c.head? = some 45 then [45] else []) ++ inter (toks [] c) := by
  cases c with
  | nil => exact absurd rfl hw
  | cons d r =>
    by_cases hd : d = 45
    · subst hd
      rw [toks_dash] at hw ⊢
      cases r with
      | nil => exact absurd rfl hw
      | cons e r' =>
        have he : e ≠ 45 := fun q => h.1 ⟨rfl, by rw [q]; rfl⟩
        obtain ⟨i1, i2, i3⟩ := trim_toks r'.length r' (Nat.le_refl _) [e] (by simp) (by simpa using fun q => he q.symm) h.2.2
        rw [toks_other he, List.nil_append]
        have e1 : 45 :: e :: r' = [45] ++ ([e] ++ r') := rfl
        rw [e1, trimE_app _ _ (by rw [i1]; exact i3), i1]
        simp
    · obtain ⟨i1, i2, i3⟩ := trim_toks r.length r (Nat.le_refl _) [d] (by simp) (by simpa using fun q => hd q.symm) h.2
      rw [toks_other hd, List.nil_append, if_neg (by simpa using hd)]
      exact i1
/-- collapse and trim of words with one hyphen between two -/
theorem coll_trim (W : List (List Nat)) (hf : ∀ a ∈ W, 45 ∉ a) (hne : (W.filter fun a => decide (a ≠ [])) ≠ []) (c : List Nat) (hc : noDD c) (ht : toks [] c = toks [] (inter W)) (hh : c.head? = (inter W).head?) :
    trimE c = (if W.head? = some [] then [45] else []) ++ inter (W.filter fun a => decide (a ≠ [])) := by
  have hW : W ≠ [] := fun e => hne (by rw [e]; rfl)
  rw [trim_all c hc (by rw [ht, toks_inter W hf hW]; exact hne), ht, toks_inter W hf hW, hh]
  congr 1
  cases W with
  | nil => exact absurd rfl hW
  | cons a r =>
    cases a with
    | nil =>
      cases r with
      | nil => exact absurd rfl hne
      | cons b r' => rfl
    | cons x a' =>
      have hx : x ≠ 45 := fun q => hf (x :: a') (List.mem_cons_self ..) (by rw [q]; simp)
      have h1 : (inter ((x :: a') :: r)).head? = some x := by cases r <;> rfl
      rw [h1, if_neg (by simpa using hx), if_neg (by simp)]
end Mine
end

section
set_option linter.unusedVariables false
namespace Mine
open PySem.StrLaws PySem.Builtin.Str
abbrev UNK : List Nat := [117, 110, 107, 110, 111, 119, 110]
theorem unk_list : (Str.ofString "unknown").cps.toList = UNK := by decide +kernel
theorem prefix_dash (y : List Nat) (hy : 45 ∉ y) : ∀ a b : List Nat, y.isPrefixOf (a ++ 45 :: b) = y.isPrefixOf a := by
  induction y with
  | nil => intro a b; simp [List.isPrefixOf]
  | cons c y ih =>
    intro a b
    rw [List.mem_cons, not_or] at hy
    cases a with
    | nil => simp [List.isPrefixOf]; intro e; exact absurd e.symm hy.1
    | cons d a => simp only [List.cons_append, List.isPrefixOf, ih hy.2]
theorem repl_dash (n : Nat) : ∀ a b : List Nat, a.length ≤ n → repl UNK [] (a ++ 45 :: b) = repl UNK [] a ++ 45 :: repl UNK [] b := by
  induction n with
  | zero =>
    intro a b h
    have : a = [] := List.eq_nil_of_length_eq_zero (by omega)
    subst this
    exact repl_miss (by simp [List.isPrefixOf])
  | succ n ih =>
    intro a b h
    cases a with
    | nil => exact repl_miss (by simp [List.isPrefixOf])
    | cons c a =>
      have hp := prefix_dash UNK (by decide) (c :: a) b
      cases hq : UNK.isPrefixOf (c :: a) with
      | true =>
        rw [hq] at hp
        have hl := (List.isPrefixOf_iff_prefix.1 hq).length_le
        rw [repl_hit (by decide) hp, repl_hit (by decide) hq, List.drop_append_of_le_length hl, ih _ _ (by rw [List.length_drop, List.length_cons] at *; simp at hl h ⊢; omega)]
        rfl
      | false =>
        rw [hq] at hp
        rw [List.cons_append] at hp ⊢
        rw [repl_miss hp, repl_miss hq, ih _ _ (by simp at h; omega)]
        rfl
theorem repl_inter (W : List (List Nat)) : repl UNK [] (inter W) = inter (W.map (repl UNK [])) := by
  induction W with
  | nil => rfl
  | cons a r ih =>
    cases r with
    | nil => rfl
    | cons b r' =>
      show repl UNK [] (a ++ 45 :: inter (b :: r')) = _
      rw [repl_dash a.length a _ (Nat.le_refl _), ih]
      rfl
theorem repl_free {y : List Nat} (n : Nat) : ∀ l : List Nat, 45 ∉ l → 45 ∉ replN y [] n l := by
  induction n with
  | zero => intro l h; exact h
  | succ n ih =>
    intro l h
    cases l with
    | nil => exact h
    | cons c r =>
      simp only [replN]
      split
      · rw [List.nil_append]; exact ih _ fun q => h (List.mem_of_mem_drop q)
      · rw [List.mem_cons, not_or] at h ⊢
        exact ⟨h.1, ih r h.2⟩
def NI (l : List Nat) : Prop := ∀ a b, l ≠ a ++ UNK ++ b
theorem repl_NI (l : List Nat) (h : NI l) : repl UNK [] l = l := by
  have := scan l UNK [] l.length 0 l.length rfl (Nat.zero_le _) (Nat.le_refl _) fun k _ hk => by
    apply Bool.eq_false_iff.2
    intro q
    obtain ⟨t, ht⟩ := List.isPrefixOf_iff_prefix.1 q
    exact h (l.take k) t (by rw [List.append_assoc, ht, List.take_append_drop])
  rw [List.drop_zero, List.drop_length, repl_nil, List.append_nil] at this
  rw [this]; simp
theorem repl_first (q X : List Nat) {pend : List Nat} {f : Nat} (hN : NI pend) (hp : pend ++ [f] = q ++ UNK) : repl UNK [] (q ++ (UNK ++ X)) = q ++ repl UNK [] X := by
  have hpe : pend = q ++ [117, 110, 107, 110, 111, 119] := by
    have : pend ++ [f] = (q ++ [117, 110, 107, 110, 111, 119]) ++ [110] := by rw [hp]; simp
    exact (List.append_inj' this rfl).1
  have hs := scan (q ++ (UNK ++ X)) UNK [] q.length 0 q.length rfl (Nat.zero_le _) (by simp) fun k _ hk => by
    apply Bool.eq_false_iff.2
    intro hq
    obtain ⟨t, ht⟩ := List.isPrefixOf_iff_prefix.1 hq
    rw [List.drop_append_of_le_length (by omega)] at ht
    have hdl : (q.drop k).length ≥ 1 := by rw [List.length_drop]; omega
    have e1 : q.drop k ++ (UNK ++ X) = (q.drop k ++ [117, 110, 107, 110, 111, 119]) ++ ([110] ++ X) := by simp
    have e2 : (q.drop k ++ [117, 110, 107, 110, 111, 119]).take 7 = UNK := by
      have : (q.drop k ++ (UNK ++ X)).take 7 = UNK := by rw [← ht]; rfl
      rw [e1, List.take_append_of_le_length (by simp at hdl ⊢; omega)] at this
      exact this
    refine hN (q.take k) ((q.drop k ++ [117, 110, 107, 110, 111, 119]).drop 7) ?_
    rw [hpe, List.append_assoc, ← e2, List.take_append_drop, ← List.append_assoc, List.take_append_drop]
  rw [List.drop_zero, Nat.sub_zero] at hs
  rw [hs]
  have h1 : (q ++ (UNK ++ X)).take q.length = q := by simp
  have h2 : (q ++ (UNK ++ X)).drop q.length = UNK ++ X := by simp
  rw [h1, h2, repl_hit (by decide) (List.isPrefixOf_iff_prefix.2 ⟨X, rfl⟩)]
  rfl
theorem inter_last (A : List (List Nat)) (a b : List Nat) : inter (A ++ [a ++ b]) = inter (A ++ [a]) ++ b := by
  cases A with
  | nil => rfl
  | cons x r =>
    rw [inter_app (by simp) (by simp), inter_app (by simp) (by simp)]
    simp [inter]
def fmap (c : Nat) : Nat := if c = 32 then 95 else if c = 40 then 45 else c
structure Rel (q : WS) (segs : List (List Nat)) (seg out pend done : List Nat) : Prop where
  ws : q.1.map (fun x => x.cps.toList) = segs.map (repl UNK [])
  wd : q.2.1.cps.toList = out ++ pend
  kp : q.2.2 = out.length
  go : ∀ X, repl UNK [] (seg ++ X) = out ++ repl UNK [] (pend ++ X)
  ni : NI pend
  fr : ∀ a ∈ segs, 45 ∉ a
  fs : 45 ∉ seg
  al : inter (segs ++ [seg]) = done.map fmap
theorem Rel.seg {q : WS} {segs : List (List Nat)} {seg out pend done : List Nat} (r : Rel q segs seg out pend done) : repl UNK [] seg = q.2.1.cps.toList := by
  have := r.go []
  rw [List.append_nil, List.append_nil, repl_NI pend r.ni] at this
  rw [this, r.wd]
theorem endsW (x : Str) : Txt.endswith x "unknown" = true ↔ ∃ q, x.cps.toList = q ++ UNK := by
  unfold Txt.endswith
  have hu : (Str.ofString "unknown").length = 7 := by decide +kernel
  rw [Bool.and_eq_true, decide_eq_true_iff, subAt_eq, hu, unk_list]
  have hx := len_toList x
  constructor
  · rintro ⟨h1, h2⟩
    have h2 := beq_iff_eq.1 h2
    refine ⟨x.cps.toList.take (x.length - 7), ?_⟩
    have h3 : (x.cps.toList.drop (x.length - 7)).take 7 = x.cps.toList.drop (x.length - 7) := List.take_of_length_le (by rw [List.length_drop, hx]; omega)
    rw [← h2, h3, List.take_append_drop]
  · rintro ⟨q, hq⟩
    have hl : x.length = q.length + 7 := by rw [← hx, hq]; simp
    refine ⟨by omega, beq_iff_eq.2 ?_⟩
    have : x.length - 7 = q.length := by omega
    rw [this, hq]; simp
theorem slice_m7 (x : Str) {q : List Nat} (h : x.cps.toList = q ++ UNK) : (Txt.slice x none (some (-7))).cps.toList = q := by
  have hl : x.length = q.length + 7 := by rw [← len_toList, h]; simp
  have e : Txt.slice x none (some (-7)) = StrLaws.sliceText x none (some (-7)) := rfl
  rw [e, StrLaws.sliceText_to_neg (by decide) (by omega)]
  show ((x.cps.toList.drop 0).take (-7 + (x.length : Int) - 0).toNat) = q
  have e2 : (-7 + (x.length : Int) - 0).toNat = q.length := by omega
  rw [e2, h, List.drop_zero]; simp
theorem signOf_list {c : Nat} (h : ¬ (c = 45 ∨ c = 40)) : (signOf c).cps.toList = [fmap c] ∧ fmap c ≠ 45 := by
  unfold signOf fmap
  by_cases h32 : c = 32
  · rw [if_pos h32, if_pos h32]; exact ⟨by decide +kernel, by decide⟩
  · rw [if_neg h32, if_neg h32, if_neg (fun e => h (.inr e))]; exact ⟨rfl, fun e => h (.inl e)⟩
theorem Rel.step {q : WS} {segs : List (List Nat)} {seg out pend done : List Nat} (r : Rel q segs seg out pend done) (c : Nat) :
    ∃ segs' seg' out' pend', Rel (wStep q c) segs' seg' out' pend' (done ++ [c]) := by
  obtain ⟨ws, wd, kp⟩ := q
  unfold wStep
  by_cases hd : c = 45 ∨ c = 40
  · rw [if_pos hd]
    have hfc : fmap c = 45 := by rcases hd with rfl | rfl <;> rfl
    refine ⟨segs ++ [seg], [], [], [], ⟨?_, (by show (Str.ofString "").cps.toList = []; decide +kernel), rfl, fun X => rfl, fun a b e => ?_, fun a ha => ?_, by simp, ?_⟩⟩
    · show (ws ++ [wd]).map _ = _
      rw [List.map_append, List.map_append, r.ws]
      show _ ++ [wd.cps.toList] = _ ++ [repl UNK [] seg]
      rw [r.seg]
    · have := congrArg List.length e; simp at this
    · rcases List.mem_append.1 ha with ha | ha
      · exact r.fr a ha
      · rw [List.mem_singleton.1 ha]; exact r.fs
    · rw [inter_app (by simp) (by simp), r.al, List.map_append]
      show _ ++ 45 :: [] = _ ++ [fmap c]
      rw [hfc]
  · rw [if_neg hd]
    obtain ⟨hs1, hs2⟩ := signOf_list hd
    have hwd : (wd ++ signOf c).cps.toList = out ++ (pend ++ [fmap c]) := by
      rw [Str.cps_append, Array.toList_append, hs1]
      show wd.cps.toList ++ _ = _
      rw [r.wd, List.append_assoc]
    have hkp : kp = out.length := r.kp
    have hsl : (Txt.slice (wd ++ signOf c) (some (kp : Int)) none).cps.toList = pend ++ [fmap c] := by
      rw [slice_from _ (by rw [← len_toList, hwd]; simp; omega), hwd, hkp]; simp
    have hal : inter (segs ++ [seg ++ [fmap c]]) = (done ++ [c]).map fmap := by rw [inter_last, r.al, List.map_append]; rfl
    have hfs : 45 ∉ seg ++ [fmap c] := by
      intro hm
      rcases List.mem_append.1 hm with hm | hm
      · exact r.fs hm
      · exact hs2 (List.mem_singleton.1 hm).symm
    by_cases he : Txt.endswith (Txt.slice (wd ++ signOf c) (some (kp : Int)) none) "unknown" = true
    · show ∃ segs' seg' out' pend', Rel (if Txt.endswith (Txt.slice (wd ++ signOf c) (some (kp : Int)) none) "unknown" = true then _ else _) segs' seg' out' pend' (done ++ [c])
      rw [if_pos he]
      obtain ⟨q, hq⟩ := (endsW _).1 he
      rw [hsl] at hq
      have hsl7 : (Txt.slice (wd ++ signOf c) none (some (-7))).cps.toList = out ++ q := slice_m7 _ (by rw [hwd, hq, List.append_assoc])
      refine ⟨segs, seg ++ [fmap c], out ++ q, [], ⟨r.ws, by rw [List.append_nil]; exact hsl7, ?_, fun X => ?_, fun a b e => ?_, r.fr, hfs, hal⟩⟩
      · show (Txt.slice (wd ++ signOf c) none (some (-7))).length = _
        rw [← len_toList, hsl7]
      · rw [List.append_assoc, r.go, ← List.append_assoc pend, hq, List.append_assoc q, repl_first q X r.ni hq, List.nil_append, List.append_assoc]
      · have := congrArg List.length e; simp at this
    · show ∃ segs' seg' out' pend', Rel (if Txt.endswith (Txt.slice (wd ++ signOf c) (some (kp : Int)) none) "unknown" = true then _ else _) segs' seg' out' pend' (done ++ [c])
      rw [if_neg he]
      refine ⟨segs, seg ++ [fmap c], out, pend ++ [fmap c], ⟨r.ws, hwd, r.kp, fun X => ?_, fun a b e => ?_, r.fr, hfs, hal⟩⟩
      · rw [List.append_assoc, r.go, List.append_assoc]
      · rcases List.eq_nil_or_concat b with rfl | ⟨b', z, rfl⟩
        · exact he ((endsW _).2 ⟨a, by rw [hsl, e, List.append_nil]⟩)
        · rw [List.concat_eq_append, ← List.append_assoc] at e
          exact r.ni a b' (List.append_inj' e rfl).1
theorem Rel.run (l : List Nat) : ∃ segs seg out pend, Rel (wRun l) segs seg out pend l := by
  have : ∀ (l : List Nat) (q : WS) (done : List Nat), (∃ segs seg out pend, Rel q segs seg out pend done) → ∃ segs seg out pend, Rel (l.foldl wStep q) segs seg out pend (done ++ l) := by
    intro l
    induction l with
    | nil => intro q done h; simpa using h
    | cons c r ih =>
      intro q done ⟨segs, seg, out, pend, h⟩
      have := ih (wStep q c) (done ++ [c]) (h.step c)
      simpa using this
  have h0 : Rel ([], "", 0) [] [] [] [] [] := ⟨rfl, by decide +kernel, rfl, fun X => rfl, fun a b e => by have := congrArg List.length e; simp at this, by simp, by simp, rfl⟩
  simpa [wRun] using this l ([], "", 0) [] ⟨[], [], [], [], h0⟩
/-- the law's words of a text -/
theorem words_spec (x : Str) : ∃ W : List (List Nat), W ≠ [] ∧ (∀ a ∈ W, 45 ∉ a) ∧ inter W = x.cps.toList.map fmap ∧ (wordsL x).map (fun y => y.cps.toList) = W.map (repl UNK []) := by
  obtain ⟨segs, seg, out, pend, r⟩ := Rel.run x.cps.toList
  refine ⟨segs ++ [seg], by simp, fun a ha => ?_, r.al, ?_⟩
  · rcases List.mem_append.1 ha with ha | ha
    · exact r.fr a ha
    · rw [List.mem_singleton.1 ha]; exact r.fs
  · unfold wordsL
    rw [List.map_append, List.map_append, r.ws]
    show _ ++ [_] = _ ++ [_]
    rw [r.seg]
end Mine
end

section
set_option linter.unusedVariables false
namespace Mine
open PySem.StrLaws PySem.Builtin.Str
theorem repl_one (c d : Nat) (l : List Nat) : repl [c] [d] l = l.map fun x => if x = c then d else x := by
  induction l with
  | nil => rfl
  | cons a r ih =>
    by_cases h : a = c
    · have hp : [c].isPrefixOf (a :: r) = true := by simp [List.isPrefixOf, h]
      rw [repl_hit (by simp) hp]
      show [d] ++ repl [c] [d] r = _
      rw [ih, List.map_cons, if_pos h]; rfl
    · have hp : [c].isPrefixOf (a :: r) = false := by simp [List.isPrefixOf]; exact fun e => h e.symm
      rw [repl_miss hp, ih, List.map_cons, if_neg h]
theorem rep1 (x : Str) {y z : Str} {c d : Nat} (hy : y.cps.toList = [c]) (hz : z.cps.toList = [d]) : (Txt.replace x y z).cps.toList = x.cps.toList.map fun x => if x = c then d else x := by
  rw [rep_list x y z (by rw [← len_toList, hy]; simp), hy, hz, repl_one]
theorem reps_list (x : Str) (h : ∀ c ∈ x.cps.toList, okc c) : (reps x).cps.toList = repl UNK [] (x.cps.toList.map fmap) := by
  unfold reps
  rw [rep_list _ "unknown" "" (by decide +kernel), unk_list, show (Str.ofString "").cps.toList = [] from by decide +kernel]
  rw [rep1 _ (c := 41) (d := 45) (by decide +kernel) (by decide +kernel), rep1 _ (c := 40) (d := 45) (by decide +kernel) (by decide +kernel), rep1 _ (c := 34) (d := 45) (by decide +kernel) (by decide +kernel),
    rep1 _ (c := 59) (d := 45) (by decide +kernel) (by decide +kernel), rep1 _ (c := 58) (d := 45) (by decide +kernel) (by decide +kernel), rep1 _ (c := 92) (d := 45) (by decide +kernel) (by decide +kernel),
    rep1 _ (c := 47) (d := 45) (by decide +kernel) (by decide +kernel), rep1 _ (c := 32) (d := 95) (by decide +kernel) (by decide +kernel)]
  congr 1
  simp only [List.map_map]
  apply List.map_congr_left
  intro c hc
  have hok := h c hc
  simp only [okc, List.mem_cons, not_or, List.not_mem_nil] at hok
  obtain ⟨h1, h2, h3, h4, h5, h6, _⟩ := hok
  simp only [Function.comp, fmap]
  by_cases h32 : c = 32
  · subst h32; rfl
  · by_cases h40 : c = 40
    · subst h40; rfl
    · simp [h32, h40, h1, h2, h3, h4, h5, h6]
theorem join_inter (T : List Str) : (Txt.join "-" T).cps.toList = inter (T.map fun x => x.cps.toList) := by
  rw [show Txt.join "-" T = Str.join "-" T from glued_eq_join _ _]
  induction T with
  | nil => decide +kernel
  | cons a r ih =>
    cases r with
    | nil => rfl
    | cons b r' =>
      rw [join_cons2, Str.cps_append, Str.cps_append, Array.toList_append, Array.toList_append, ih, show (Str.ofString "-").cps.toList = [45] from by decide +kernel]
      simp [inter]
theorem inter_map (f : Nat → Nat) (hf : f 45 = 45) (W : List (List Nat)) : (inter W).map f = inter (W.map fun a => a.map f) := by
  induction W with
  | nil => rfl
  | cons a r ih =>
    cases r with
    | nil => rfl
    | cons b r' =>
      show (a ++ 45 :: inter (b :: r')).map f = _
      rw [List.map_append, List.map_cons, ih, hf]; rfl
theorem inter_mem (P : Nat → Prop) (h45 : P 45) (W : List (List Nat)) (h : ∀ a ∈ W, ∀ c ∈ a, P c) : ∀ c ∈ inter W, P c := by
  induction W with
  | nil => intro c hc; cases hc
  | cons a r ih =>
    cases r with
    | nil => exact h a (List.mem_cons_self ..)
    | cons b r' =>
      intro c hc
      have hc : c ∈ a ++ 45 :: inter (b :: r') := hc
      rcases List.mem_append.1 hc with hc | hc
      · exact h a (List.mem_cons_self ..) c hc
      · rcases List.mem_cons.1 hc with rfl | hc
        · exact h45
        · exact ih (fun a ha => h a (List.mem_cons_of_mem _ ha)) c hc
theorem strip_mem (x : Str) : ∀ c ∈ (Txt.strip x).cps.toList, c ∈ x.cps.toList := by
  intro c hc
  have e : Txt.strip x = Txt.stripBy Unicode.isSpace true true x := rfl
  rw [e, PyProof.Rows.stripBy_eq, strSub_toList] at hc
  exact List.mem_of_mem_drop (List.mem_of_mem_take hc)
theorem coll_inv {x c : Str} (h : Coll x c) : noDD c.cps.toList ∧ toks [] c.cps.toList = toks [] x.cps.toList ∧ c.cps.toList.head? = x.cps.toList.head? := by
  have e : ∀ x : Str, (Txt.replace x "--" "-").cps.toList = repl DD D1 x.cps.toList := fun x => by
    rw [rep_list x "--" "-" (by decide +kernel), show (Str.ofString "--").cps.toList = DD from by decide +kernel, show (Str.ofString "-").cps.toList = D1 from by decide +kernel]
  induction h with
  | stop x hx =>
    refine ⟨noDD_of _ ?_, rfl, rfl⟩
    rw [← e x, hx]
  | step x y _ ih =>
    refine ⟨ih.1, ?_, ?_⟩
    · rw [ih.2.1, e x, toks_repl _ _ (Nat.le_refl _)]
    · rw [ih.2.2, e x, head_repl]
def uab (x : Str) : Str := if x = "unknown" then "" else x
def kept (ts : List Str) : List Str := (ts.filter fun (t : Str) => decide (¬ (t = "" ∨ t = "unknown"))).map Txt.strip
theorem len0 (t : Str) : t.length = 0 ↔ t = "" := by
  constructor
  · intro h
    apply strEq
    rw [show (Str.ofString "").cps.toList = [] from by decide +kernel]
    exact List.eq_nil_of_length_eq_zero (by rw [len_toList]; exact h)
  · rintro rfl; decide +kernel
theorem passed_uab (ts : List Str) : passed (ts.map uab) = kept ts := by
  unfold passed kept
  induction ts with
  | nil => rfl
  | cons t r ih =>
    rw [List.map_cons, List.filter_cons, List.filter_cons]
    by_cases h1 : t = "unknown"
    · have e1 : uab t = "" := by unfold uab; rw [if_pos h1]
      have e2 : (!((uab t).length == 0)) = false := by rw [e1]; decide +kernel
      rw [if_neg (by rw [e2]; decide), if_neg (by simp [h1])]; exact ih
    · have e1 : uab t = t := by unfold uab; rw [if_neg h1]
      by_cases h0 : t = ""
      · have e2 : (!((uab t).length == 0)) = false := by rw [e1, (len0 t).2 h0]; rfl
        rw [if_neg (by rw [e2]; decide), if_neg (by simp [h0])]; exact ih
      · have e2 : (!((uab t).length == 0)) = true := by rw [e1, beq_eq_false_iff_ne.2 (fun q => h0 ((len0 t).1 q))]; rfl
        rw [if_pos e2, if_pos (by simp [h0, h1]), List.map_cons, List.map_cons, ih, e1]
theorem wordsAll_kept (ts : List Str) : wordsAll ts = (kept ts).flatMap wordsL := by
  unfold wordsAll kept
  induction ts with
  | nil => rfl
  | cons t r ih =>
    rw [List.flatMap_cons, List.filter_cons, ih]
    by_cases h : t = "" ∨ t = "unknown"
    · rw [if_pos h, if_neg (fun q => (of_decide_eq_true q) h)]; rfl
    · rw [if_neg h, if_pos (decide_eq_true h)]; rfl
theorem all_words (T : List Str) (hT : T ≠ []) : ∃ W : List (List Nat), W ≠ [] ∧ (∀ a ∈ W, 45 ∉ a) ∧ inter W = inter (T.map fun x => x.cps.toList.map fmap) ∧ (T.flatMap wordsL).map (fun y => y.cps.toList) = W.map (repl UNK []) := by
  induction T with
  | nil => exact absurd rfl hT
  | cons a r ih =>
    obtain ⟨W, h1, h2, h3, h4⟩ := words_spec a
    cases r with
    | nil => exact ⟨W, h1, h2, h3, by simpa using h4⟩
    | cons b r' =>
      obtain ⟨W', g1, g2, g3, g4⟩ := ih (by simp)
      refine ⟨W ++ W', by simp [h1], fun x hx => ?_, ?_, ?_⟩
      · rcases List.mem_append.1 hx with hx | hx
        · exact h2 x hx
        · exact g2 x hx
      · rw [inter_app h1 g1, h3, g3]; rfl
      · rw [List.flatMap_cons, List.map_append, List.map_append, h4, g4]
theorem plat_label (ts : List Str) (hok : ∀ t ∈ ts, ∀ c ∈ t.cps.toList, okc c) (hne : full (wordsAll ts) ≠ []) {r : Str} (h : PlatR (ts.map uab) r) : r = labelL ts := by
  obtain ⟨c, hc, hr⟩ := h
  rw [passed_uab] at hc
  have hw := wordsAll_kept ts
  have hT : kept ts ≠ [] := fun e => hne (by rw [hw, e]; rfl)
  obtain ⟨W, h1, h2, h3, h4⟩ := all_words (kept ts) hT
  rw [← hw] at h4
  have hokT : ∀ a ∈ (kept ts).map (fun x => x.cps.toList), ∀ c ∈ a, okc c := by
    intro a ha c hc
    obtain ⟨x, hx, rfl⟩ := List.mem_map.1 ha
    unfold kept at hx
    obtain ⟨t, ht, rfl⟩ := List.mem_map.1 hx
    exact hok t (List.mem_filter.1 ht).1 c (strip_mem t c hc)
  have hJ : (reps (Txt.join "-" (kept ts))).cps.toList = inter (W.map (repl UNK [])) := by
    rw [reps_list _ (by rw [join_inter]; exact inter_mem okc (by decide) _ hokT), join_inter, inter_map fmap rfl, List.map_map]
    show repl UNK [] (inter ((kept ts).map fun x => x.cps.toList.map fmap)) = _
    rw [← h3, repl_inter]
  obtain ⟨i1, i2, i3⟩ := coll_inv hc
  rw [hJ, ← h4] at i2 i3
  have hfree : ∀ a ∈ (wordsAll ts).map (fun y => y.cps.toList), 45 ∉ a := by
    rw [h4]
    intro a ha
    obtain ⟨x, hx, rfl⟩ := List.mem_map.1 ha
    exact repl_free _ x (h2 x hx)
  have hfil : ((wordsAll ts).map (fun y => y.cps.toList)).filter (fun a => decide (a ≠ [])) = (full (wordsAll ts)).map (fun y => y.cps.toList) := by
    unfold full
    rw [List.filter_map]
    congr 1
    apply List.filter_congr
    intro x hx
    show decide (x.cps.toList ≠ []) = decide (x ≠ "")
    apply decide_eq_decide.2
    constructor
    · intro q e; exact q (by rw [e]; decide +kernel)
    · intro q e; exact q ((len0 x).1 (by rw [← len_toList, e]; rfl))
  have key := coll_trim _ hfree (by rw [hfil]; simpa using hne) _ i1 i2 i3
  apply strEq
  rw [hr, key, hfil]
  obtain ⟨w0, ws', hw0⟩ : ∃ w0 r, wordsAll ts = w0 :: r := by
    cases h : wordsAll ts with
    | nil => exact absurd (by rw [h]; rfl) hne
    | cons a r => exact ⟨a, r, rfl⟩
  have hlab : labelL ts = (if w0 = "" then ("-" : Str) else "") ++ Txt.join "-" (full (wordsAll ts)) := by unfold labelL; rw [hw0]; simp
  rw [hlab, Str.cps_append, Array.toList_append, join_inter]
  congr 1
  rw [hw0, List.map_cons, List.head?_cons]
  by_cases he : w0 = ""
  · rw [if_pos (by rw [he]; decide +kernel), if_pos he]; decide +kernel
  · rw [if_neg (fun e => he ((len0 w0).1 (by rw [← len_toList, Option.some.inj e]; rfl))), if_neg he]; decide +kernel
end Mine
end

section
set_option linter.unusedVariables false
set_option maxRecDepth 100000
namespace Mine
def strI (z : Int) : Str := Str.ofString (toString z)
def lineOk (z : Int) : Bool := (wordsL (Txt.strip (strI z))).any (fun (y : Str) => decide (y ≠ "")) && (strI z).cps.toList.all (fun c => decide (okc c)) && decide (strI z ≠ "") && decide (strI z ≠ "unknown") && decide ((strI z).length ≤ 10)
theorem lineAll : (List.range 100).all (fun n => lineOk ((n : Int) - 20)) = true := by decide +kernel
theorem line_ok (z : Int) (h0 : -20 ≤ z) (h1 : z ≤ 79) : lineOk z = true := by
  have h := List.all_eq_true.1 lineAll (z + 20).toNat (List.mem_range.2 (by omega))
  have e : (((z + 20).toNat : Nat) : Int) - 20 = z := by omega
  rw [e] at h; exact h
theorem line_facts (z : Int) (h0 : -20 ≤ z) (h1 : z ≤ 79) : (∃ y ∈ wordsL (Txt.strip (strI z)), y ≠ "") ∧ (∀ c ∈ (strI z).cps.toList, okc c) ∧ strI z ≠ "" ∧ strI z ≠ "unknown" ∧ (strI z).length ≤ 10 := by
  have h := line_ok z h0 h1
  unfold lineOk at h
  simp only [Bool.and_eq_true, List.any_eq_true, List.all_eq_true, decide_eq_true_eq] at h
  obtain ⟨⟨⟨⟨⟨y, hy, hy2⟩, h2⟩, h3⟩, h4⟩, h5⟩ := h
  exact ⟨⟨y, hy, hy2⟩, h2, h3, h4, h5⟩
theorem full_ne (a n : Str) (z : Int) (h0 : -20 ≤ z) (h1 : z ≤ 79) : full (wordsAll [a, strI z, n]) ≠ [] := by
  obtain ⟨⟨y, hy, hy2⟩, _, h3, h4, _⟩ := line_facts z h0 h1
  have hm : y ∈ wordsAll [a, strI z, n] := by
    unfold wordsAll
    refine List.mem_flatMap.2 ⟨strI z, by simp, ?_⟩
    rw [if_neg (by simp [h3, h4])]; exact hy
  intro e
  have : y ∈ full (wordsAll [a, strI z, n]) := List.mem_filter.2 ⟨hm, decide_eq_true hy2⟩
  rw [e] at this; cases this
theorem words_ne (a n : Str) (z : Int) (h0 : -20 ≤ z) (h1 : z ≤ 79) : wordsAll [a, strI z, n] ≠ [] := fun e => full_ne a n z h0 h1 (by rw [e]; rfl)
end Mine
end

section
set_option linter.unusedVariables false
set_option maxRecDepth 100000
set_option maxHeartbeats 1000000
namespace Mine
variable {w : World} {mg mb : Str → Option Value} {B : Heap} {A : Around} {E : Value → Shared → Prop} {s : Shared} {S : Addr → Obj → Prop} {l : List (Addr × Obj)} {m : Str → Option Value} {env : Env} {M : Model}
theorem loop4c {it ax : Addr} {items : Array Value} {x₁ x₂ x₃ x₄ : Str} {p₁ p₂ p₃ p₄ pt : Pos} {x1} {body : List Stmt} {o : Obj} {R : Result → Shared → Prop} {G : Nat → Value → Value → Value → Value → Prop}
    (hA : A.handled = none) (hl : ListS S ax items.toList) (hT : ∀ i v, items[i]? = some v → ∃ t a b c d, v = .ref t ∧ TupS S t [a, b, c, d] ∧ G i a b c d)
    (J : JJ) (hJ : ∀ i S l m s s', Fro s s' → J i S l m s → J i S l m s')
    (st : St w mg mb B S ((it, o) :: l) env.locals m s.heap) (hst : s.heap.IsListIter it ax 0) (h0 : J 0 S l m s)
    (step : ∀ i a b c d S' l' m' o' s₁, i < items.size → G i a b c d → (∀ b o, S b o → S' b o) → J i S' l' m' s₁ → o'.cls = .type "list_iterator" → St w mg mb B S' ((it, o') :: l') env.locals (upd (upd (upd (upd m' x₁ a) x₂ b) x₃ c) x₄ d) s₁.heap →
      wpAny (model PR w) A (execs body env) (fun f s₃ => match f with
        | .next | .cont => ∃ S'' l'' m'', (∀ b o, S' b o → S'' b o) ∧ St w mg mb B S'' ((it, o') :: l'') env.locals m'' s₃.heap ∧ J (i + 1) S'' l'' m'' s₃
        | .brk => R (.ok .next) s₃
        | .ret v => R (.ok (.ret v)) s₃) (fun _ _ => False) s₁)
    (done : ∀ S' l' m' s', (∀ b o, S b o → S' b o) → J items.size S' l' m' s' → St w mg mb B S' l' env.locals m' s'.heap → R (.ok .next) s')
    (hk : env.scope.kind = .function := by rfl) (h1 : env.kindOf x₁ = some .local := by rfl) (h2 : env.kindOf x₂ = some .local := by rfl) (h3 : env.kindOf x₃ = some .local := by rfl) (h4 : env.kindOf x₄ = some .local := by rfl) :
    codeAny (model PR w) A (.forLoop (.Tuple [.Name x₁ p₁, .Name x₂ p₂, .Name x₃ p₃, .Name x₄ p₄] x1 pt) (.ref it) body [] env) R s := by
  have hne : ax ≠ it := fun e => by
    obtain ⟨o', e', _⟩ := hl
    exact (st.moff _ (List.mem_cons_self ..)).2 o' (e ▸ e')
  refine loopW (Walks.list hA it ax hne items) (fun i h q => ⟨_, q.1.choose_spec.1⟩) J hJ (fun b hb => ?_) st ⟨hst, by simpa using hl.at st⟩ h0 (fun i v S' l' m' o' s₁ hi hP hS hW hJ' st' => ?_) done
  · rcases List.mem_cons.1 hb with rfl | hb
    · exact .inl rfl
    · rw [List.mem_singleton.1 hb]; obtain ⟨o', e', _⟩ := hl; exact .inr ⟨o', e'⟩
  · obtain ⟨t, a, b, c, d, rfl, ht, hG⟩ := hT i v hP
    have hcls : o'.cls = .type "list_iterator" := by
      obtain ⟨oo, h1, h2, _⟩ := hW.1
      rw [st'.at0] at h1; cases h1; exact h2
    refine wpAny_letOwnedTupleGo_listiter hW.1 ?_
    refine unp hA st' ((ht.mono hS).at st') (by rfl) (by rfl) fun s₂ f₂ st₂ => ?_
    refine assignInOrder_cons (assign_Name (sLoc st₂ (fun s₃ f₃ st₃ => ?_) hk h1))
    refine assignInOrder_cons (assign_Name (sLoc st₃ (fun s₄ f₄ st₄ => ?_) hk h2))
    refine assignInOrder_cons (assign_Name (sLoc st₄ (fun s₅ f₅ st₅ => ?_) hk h3))
    refine assignInOrder_cons (assign_Name (sLoc st₅ (fun s₆ f₆ st₆ => assignInOrder_nil ?_) hk h4))
    exact step i a b c d S' l' m' o' _ hi hG hS (hJ _ _ _ _ _ _ (f₂.trans (f₃.trans (f₄.trans (f₅.trans f₆)))) hJ') hcls st₆
theorem St.adopt {L a : Addr} {h : Heap} {o : Obj} (st : St w mg mb B S l L m h) (ha : h.get? a = some o) (hL : a ≠ L) (hl : ∀ q ∈ l, q.1 ≠ a) : St w mg mb B (add1 S a o) l L m h :=
  st.grow add1.up fun b o' e => e.elim .inl fun ⟨h1, h2⟩ => .inr ⟨fun q => hL (h1 ▸ q), by rw [h1, h2]; exact ha, fun q hq e => hl q hq (e.trans h1)⟩
theorem St.adoptTup {L a : Addr} {h : Heap} {items : Array Value} (st : St w mg mb B S l L m h) (ha : IsTup h a items) (hl : ∀ q ∈ l, q.2.cls ≠ .type "tuple") : ∃ S', (∀ b o, S b o → S' b o) ∧ TupS S' a items.toList ∧ St w mg mb B S' l L m h := by
  obtain ⟨o, h1, h2, n, h3⟩ := ha
  refine ⟨_, add1.up, ⟨o, add1.new, h2, n, by simpa using h3⟩, st.adopt h1 (st.Ldiff (fun es k e => by rw [h3] at e; cases e) h1) fun q hq e => ?_⟩
  have := st.mu q hq
  rw [e, h1] at this
  cases this
  exact hl q hq h2
/-- a table that stays -/
def TabS (w : World) (S : Addr → Obj → Prop) (d : Addr) (tab : List (Str × Int)) : Prop := ∃ o, S d o ∧ ∃ kvs, o.IsDictOf (KD w) kvs ∧ Paired IsKV kvs tab
theorem TabS.at {L d : Addr} {h : Heap} {tab : List (Str × Int)} (x : TabS w S d tab) (st : St w mg mb B S l L m h) : TabOf w h d tab :=
  let ⟨o, e, kvs, h1, h2⟩ := x; ⟨kvs, Heap.dictOf_iff.2 ⟨o, st.keep _ _ e, h1⟩, h2⟩
theorem TabS.mono {S' : Addr → Obj → Prop} {d : Addr} {tab : List (Str × Int)} (x : TabS w S d tab) (h : ∀ b o, S b o → S' b o) : TabS w S' d tab := let ⟨o, e, r⟩ := x; ⟨o, h _ _ e, r⟩
theorem St.adoptTab {L a : Addr} {h : Heap} {tab : List (Str × Int)} (st : St w mg mb B S l L m h) (ha : TabOf w h a tab) (hL : a ≠ L) (hl : ∀ q ∈ l, q.1 ≠ a) : ∃ S', (∀ b o, S b o → S' b o) ∧ TabS w S' a tab ∧ St w mg mb B S' l L m h := by
  obtain ⟨kvs, h1, h2⟩ := ha
  obtain ⟨o, h3, h4⟩ := Heap.dictOf_iff.1 h1
  exact ⟨_, add1.up, ⟨o, add1.new, kvs, h4, h2⟩, st.adopt h3 hL hl⟩
/-- the table of inner codes becomes an owned object -/
theorem St.split72 {h₀ h : Heap} {L : Addr} {ps : Array Value} (st : St w mg mb B (fun b o => h₀.get? b = some o) [] L m h) (hps : h₀.get? 72 = some (tabObj ps)) :
    St w mg mb B (fun b o => b ≠ 72 ∧ h₀.get? b = some o) [(72, tabObj ps)] L m h :=
  ⟨st.W, st.ns, fun b o e => st.keep b o e.2, fun o e => st.off o e.2, fun b o e => ⟨(fun q => by rw [q, st.W.n72] at e; cases e), st.sub b o e⟩,
    fun q hq => by rw [List.mem_singleton.1 hq]; exact st.keep _ _ hps,
    fun q hq => by rw [List.mem_singleton.1 hq]; exact ⟨fun e => st.off (tabObj ps) (by have e' : 72 = L := e; rw [← e']; exact hps), fun o e => e.1 rfl⟩, by simp⟩
/-- *xs of a list -/
theorem starList {D : Addr} {vs : List Value} {Q : List Value → Shared → Prop} (hl : PLh s.heap D vs) (hn : vs.length ≤ 1000) (h : ∀ s', Fro s s' → Kp s.heap s'.heap → Q vs s') : StarOf (model PR w) A E (.ref D) Q s := by
  obtain ⟨n, e⟩ := hl
  unfold StarOf notIterableAtAll
  refine wpAny_bind (wpAny_specialOf (T := "list") ⟨_, e, rfl⟩ PySem.F.slot_list_iter.lookup (wpAny_pure ⟨rfl, ?_⟩))
  refine wpAny_collect_seq D (.inl rfl) e rfl rfl (fun h' hk => ?_) (by rw [sizeLine_eq]; simp; omega)
  exact h _ ⟨_, _, rfl⟩ hk
end Mine
end

section
set_option linter.unusedVariables false
set_option maxRecDepth 100000
set_option maxHeartbeats 2000000
namespace Mine
variable {w : World} {mg mb : Str → Option Value} {B : Heap} {A : Around} {E : Value → Shared → Prop} {s : Shared} {S : Addr → Obj → Prop} {l : List (Addr × Obj)} {m : Str → Option Value} {env : Env} {M : Model}
/-- the last piece of the path -/
def lastP (b : Bk) : Str := (b.path.getLast?).getD ""
/-- the law's label of a booking -/
def labB (b : Bk) : Str := labelL [lastP b, strI b.line, b.name]
/-- the lines after some bookings -/
def linesB (bs : List Bk) : List (Str × Int) := bumps [] (bs.map fun b => (labB b, b.count))
theorem lastP_mem {b : Bk} (h : GoodBk b) : b.path.getLast? = some (lastP b) ∧ lastP b ∈ b.path := by
  have hne := h.ne
  obtain ⟨x, hx⟩ : ∃ x, b.path.getLast? = some x := by
    cases e : b.path.getLast? with
    | none => exact absurd (List.getLast?_eq_none_iff.1 e) hne
    | some x => exact ⟨x, rfl⟩
  have : lastP b = x := by unfold lastP; rw [hx]; rfl
  exact ⟨by rw [this]; exact hx, by rw [this]; exact List.mem_of_getLast? hx⟩
theorem lastP_ok {b : Bk} (h : GoodBk b) : okS (lastP b) 200 := h.path _ (lastP_mem h).2
theorem base_path {b : Bk} (h : GoodBk b) : baseOf (Txt.join "/" b.path) = lastP b :=
  base_join b.path (lastP b) (lastP_mem h).1 fun q => (lastP_ok h).2 47 q (by decide)
theorem path_join {b : Bk} (h : GoodBk b) : JoinOk "/" b.path = true ∧ (Txt.join "/" b.path).length ≤ sizeLine := by
  have hJ : JoinOk "/" b.path = true := by
    unfold JoinOk
    have : Builtin.Str.tooLong (b.path.toArray.foldl (fun a p => a + p.length + Str.length "/") 0) = false := by
      refine StrLaws.joinFits (B := 200) (fun y hy => (h.path y hy).1) ?_
      have h2 : Str.length "/" = 1 := rfl
      have := h.len
      rw [h2]; omega
    simpa using this
  exact ⟨hJ, joinOk_length hJ⟩
theorem plat_lab {b : Bk} (h : GoodBk b) {r : Str} (hr : PlatR [uab (lastP b), uab (strI b.line), uab b.name] r) : r = labB b := by
  refine plat_label [lastP b, strI b.line, b.name] (fun t ht c hc => ?_) (full_ne _ _ _ h.lo h.hi) hr
  have : t = lastP b ∨ t = strI b.line ∨ t = b.name := by simpa using ht
  rcases this with rfl | rfl | rfl
  · exact (lastP_ok h).2 c hc
  · exact (line_facts _ h.lo h.hi).2.1 c hc
  · exact h.name.2 c hc
theorem log2_small {z : Int} (h0 : -20 ≤ z) (h1 : z ≤ 79) : z.natAbs.log2 < 1920 := by
  have h : z.natAbs < 128 := by omega
  have : z.natAbs.log2 ≤ 127 := Nat.le_trans (Nat.log2_le_self _) (by omega)
  omega
/-- what a booking is to a loop's turn -/
def BkG (S : Addr → Obj → Prop) (bs : List Bk) (i : Nat) (a b c d : Value) : Prop :=
  ∃ bk p vs tl tn tc, bs[i]? = some bk ∧ GoodBk bk ∧ a = .ref p ∧ PL S p vs ∧ StrsAre vs bk.path ∧ b = .int bk.line tl ∧ c = .str bk.name tn ∧ d = .int bk.count tc
theorem bkG {us : List Value} {bs : List Bk} (h : Paired (BkS S) us bs) (hg : ∀ b ∈ bs, GoodBk b) (i : Nat) (v : Value) (hv : us.toArray[i]? = some v) : ∃ t a b c d, v = .ref t ∧ TupS S t [a, b, c, d] ∧ BkG S bs i a b c d := by
  rw [List.getElem?_toArray] at hv
  obtain ⟨bk, hb, t, p, vs, tl, tn, tc, e, h1, h2, h3⟩ := pairedGet h hv
  exact ⟨t, _, _, _, _, e, h1, bk, p, vs, tl, tn, tc, hb, hg bk (List.mem_of_getElem? hb), rfl, h2, h3, rfl, rfl, rfl⟩
theorem linesB_take {bs : List Bk} {i : Nat} {b : Bk} (h : bs[i]? = some b) : linesB (bs.take (i + 1)) = bump (linesB (bs.take i)) (labB b) b.count := by
  unfold linesB bumps
  rw [takeSucc h, List.map_append, List.foldl_append]; rfl
theorem linesB_len (bs : List Bk) : (linesB bs).length ≤ bs.length := by
  have := bumps_length [] (bs.map fun b => (labB b, b.count))
  unfold linesB; simpa using this
theorem eDict1 {xk xv : Str} {p1 p2 pos : Pos} {key : Str} {c : Int} {tk tc : Tok} {Q : Value → Shared → Prop} (st : St w mg mb B S l env.locals m s.heap) (hk1 : m xk = some (.str key tk)) (hv : m xv = some (.int c tc))
    (h : ∀ e s', Fro s s' → (e == sysModules) = false → TabOf w s'.heap e [(key, c)] → St w mg mb B S l env.locals m s'.heap → Q (.ref e) s')
    (hk : env.scope.kind = .function := by rfl) (hl : env.kindOf xk = some .local := by rfl) (hl2 : env.kindOf xv = some .local := by rfl) (hd : (xk == ("__debug__" : Str)) = false := by decide) (hd2 : (xv == ("__debug__" : Str)) = false := by decide) :
    wpAny (model PR w) A (eval (.Dict [some (.Name xk p1)] [.Name xv p2] pos) env) Q E s := by
  refine wpAny_Dict_pairs (knd := KD w) (pairs := [(eval (.Name xk p1) env, do let x ← eval (.Name xv p2) env; standAt pos; pure x)]) (by rfl) (by simp) (by simp) ?_
  have stP := st.pushM { cls := .type "dict", data := .dict #[] }
  refine evalPairs_cons (eLoc (s := { s with heap := s.heap.push { cls := .type "dict", data := .dict #[] } }) stP hk1 (wpAny_bind (eLoc (s := { s with heap := s.heap.push { cls := .type "dict", data := .dict #[] } }) stP hv (wpAny_bind (wpAny_standAt (wpAny_pure (evalPairs_nil ?_)))) hk hl2 hd2)) hk hl hd)
  refine ⟨[(key, .int c tc)], ⟨strKind_is PR w key tk, rfl, trivial⟩, Heap.DictOf.new _, fun h' hd' hs' => ?_⟩
  refine h _ _ ⟨_, _, rfl⟩ (notSys st.W st.base (Nat.le_refl _)) ⟨[(key, .int c tc)], ?_, .cons ⟨rfl, tc, rfl⟩ .nil⟩ (stP.drop0 hs'.extBut)
  have e : merged [] [(key, Value.int c tc)] = [(key, Value.int c tc)] := by simp [merged, stored]
  rw [e] at hd'; exact hd'
theorem uab_len (x : Str) : (uab x).length ≤ x.length := by
  unfold uab
  split
  · exact Nat.zero_le _
  · exact Nat.le_refl _
theorem c_booked {a : Addr} {us : List Value} {bs : List Bk} {Q : Value → Shared → Prop} (hA : OkA A 8) (W : Wd w mg mb B) (hB : Kp B s.heap) (hT : TabI s.heap) (hl : PLh s.heap a us) (hbs : Paired (BkS fun b o => b ≠ 72 ∧ s.heap.get? b = some o) us bs) (hg : ∀ b ∈ bs, GoodBk b) (hn : bs.length ≤ 13)
    (k : ∀ d s', s'.os = s.os → (AllBare s.gens → AllBare s'.gens) → KpT s.heap s'.heap → TabI s'.heap → (d == sysModules) = false → s.heap.get? d = none → TabOf w s'.heap d (linesB bs) → Q (.ref d) s') :
    wpAny (model PR w) A (call (.ref 113) [.ref a]) Q E s := by
  obtain ⟨ps, hps, htr⟩ := hT
  refine callK (n := 7) hA W hB (by rfl) (by rfl) (by rfl) (by rfl) (BindsTo.of_eq rfl) (by decide) (locs rfl) ?_
  intro s₁ f₁ st₀ hA
  have st := st₀.split72 hps
  have hul := hbs.length
  have ha72 : a ≠ 72 := fun e => by obtain ⟨n, e2⟩ := hl; rw [e, hps] at e2; cases e2
  have hPL : PL (fun b o => b ≠ 72 ∧ s.heap.get? b = some o) a us := let ⟨n, e⟩ := hl; ⟨n, ha72, e⟩
  refine wpAny_execs_cons (aName W (wpAny_Dict_empty ?_))
  have hd0 : TabS w (add1 (fun b o => b ≠ 72 ∧ s.heap.get? b = some o) s₁.heap.objs.size { cls := .type "dict", data := .dict #[] }) s₁.heap.objs.size [] := by
    obtain ⟨o, h1, h2⟩ := Heap.dictOf_iff.1 (Heap.DictOf.new (knd := KD w) s₁.heap)
    rw [Heap.get?_push_size _ rfl] at h1
    cases h1
    exact ⟨_, add1.new, [], h2, .nil⟩
  have hds : (s₁.heap.objs.size == sysModules) = false := notSys W st.base (Nat.le_refl _)
  have hfr : s.heap.get? s₁.heap.objs.size = none := by
    cases e : s.heap.get? s₁.heap.objs.size with
    | none => rfl
    | some o => exact absurd (Heap.lt_size (st₀.keep _ _ e)) (Nat.lt_irrefl _)
  refine ⟨_, _, _, st.push _, fun s₂ f₂ st₂ => ?_⟩
  refine wpAny_execs_cons (wpAny_For (eLoc st₂ rfl (iterList hA.hh st₂ ((hPL.mono add1.up).at st₂).isList fun I o s₃ f₃ hI hneI st₃ Wk hst hfp k₃ => ?_)))
  have hF3 : Fro s s₃ := f₁.trans (Fro.trans f₂ f₃)
  refine loop4c hA.hh (hPL.mono add1.up).listS (bkG (Paired.mono (fun v b (h : BkS _ v b) => h.mono add1.up) hbs) hg)
    (fun i S' l' m' s' => s'.os = s.os ∧ (AllBare s.gens → AllBare s'.gens) ∧ ∃ d ps', l' = [(72, tabObj ps')] ∧ TriplesOk ps'.toList ∧ m' "table" = some (.ref d) ∧ (d == sysModules) = false ∧ s.heap.get? d = none ∧ TabS w S' d (linesB (bs.take i)))
    (fun i S l m s s' f h => by obtain ⟨h1, t1, rfl⟩ := f; exact h) st₃ hst.1 ⟨by obtain ⟨h1, t1, rfl⟩ := hF3; rfl, by obtain ⟨h1, t1, rfl⟩ := hF3; exact fun h => h, _, ps, rfl, htr, rfl, hds, hfr, hd0⟩ ?_ ?_
  · rintro i v1 v2 v3 v4 S' l' m' o' s₄ hi ⟨bk, p, pv, tl, tn, tc, hbk, hgb, rfl, hpl, hpv, rfl, rfl, rfl⟩ hS ⟨hos, hgen, d, ps', rfl, htr', hmt, hdS, hdn, htab⟩ hcls st₄
    obtain ⟨ll, hl1, hl2⟩ := strsOf hpv
    have hpj := path_join hgb
    have hbase := base_path hgb
    refine wpAny_execs_cons (aName W (cDef st₄ (by rfl) (by rfl) (by rfl) (args_cons (Tuple_ ?_))))
    refine args_cons (Call_method1 (by rfl) (by rfl) (by rfl) (wpAny_Constant_str (SB.join (eLoc (s := { s₄ with toks := s₄.toks + 1 }) st₄ (v := .ref p) (by rfl) ⟨p, ll, rfl, ?_, bk.path, hl2, hpj.1, fun t₁ k₁ => ?_⟩))))
    · rw [hl1]; exact ((hpl.mono hS).at st₄).isList
    · have hlc : ∀ q ∈ [(I, o'), (72, tabObj ps')], q.2.cls ≠ .type "tuple" := fun q hq => by
        have : q = (I, o') ∨ q = (72, tabObj ps') := by simpa using hq
        rcases this with rfl | rfl
        · show o'.cls ≠ _; rw [hcls]; simp
        · simp
      refine args_cons (eLoc (s := { s₄ with toks := k₁ }) st₄ rfl (args_cons (eLoc (s := { s₄ with toks := k₁ }) st₄ rfl (args_nil (mkTupP (s := { s₄ with toks := k₁ }) st₄ fun t₂ S₅ s₅ f₅ hS₅ hT₅ st₅ k₅ => ?_)))))
      refine args_nil ⟨st₅.base, c_strip (hA.le (by decide)) W st₅.base hpj.2 (hT₅.at st₅) fun b t₃ s₆ f₆ k₆ hb => ?_⟩
      rw [hbase] at hb
      obtain ⟨S₆, hS₆, hT₆, st₆⟩ := (st₅.keeps k₆).adoptTup hb hlc
      refine ⟨_, _, _, st₆, fun s₇ f₇ st₇ => ?_⟩
      -- texts
      refine wpAny_execs_cons (aName W (List_ ?_))
      refine args_cons (Subscript_ (eLoc st₇ rfl (wpAny_Constant_int (item_tupleT (l := [.str (lastP bk) t₃, .int bk.line tl, .str bk.name tn]) (hT₆.at st₇) (by decide) (by decide) (by rfl) (by rfl) ?_))))
      refine args_cons (Call_ (eBlt (s := { s₇ with toks := s₇.toks + 1 }) st₇ (v := .type "str") (by rfl) (by rfl) (by decide) (PyProof.Rows.callWith_type1 (args_cons ?_))))
      refine Subscript_ (eLoc (s := { s₇ with toks := s₇.toks + 1 }) st₇ rfl (wpAny_Constant_int (item_tupleT (l := [.str (lastP bk) t₃, .int bk.line tl, .str bk.name tn]) (hT₆.at st₇) (by decide) (by decide) (by rfl) (by rfl) (args_nil (P.str_of_int (log2_small hgb.lo hgb.hi) ?_)))))
      refine args_cons (cDef (s := { s₇ with toks := s₇.toks + 1 + 1 + 1 }) st₇ (by rfl) (by rfl) (by rfl) (args_cons (eLoc (s := { s₇ with toks := s₇.toks + 1 + 1 + 1 }) st₇ rfl (args_nil ⟨st₇.base, c_gfn (hA.le (by decide)) W st₇.base (hT₆.at st₇) fun s₈ f₈ k₈ => ?_⟩))))
      have st₈ := st₇.keeps k₈
      refine args_nil (mkListP st₈ fun tx S₉ s₉ f₉ hS₉ hP₉ st₉ k₉ => ⟨_, _, _, st₉, fun sA fA stA => ?_⟩)
      have hstrs : StrsAre [.str (lastP bk) t₃, .str (strI bk.line) (s₇.toks + 1 + 1), .str bk.name tn] [lastP bk, strI bk.line, bk.name] := .cons _ _ (.cons _ _ (.cons _ _ .nil))
      -- label
      refine wpAny_execs_cons (aName W (Call_ (eGlob stA (v := .ref 77) (by rfl) (callWith_S (K := KK w) stA.K (by rfl) ?_))))
      refine eComp [] (fun _ => true) (fun v y => ∃ x t t', v = .str x t ∧ y = .str (uab x) t') (by rfl) (by decide) (by decide) (by decide) (eLoc stA rfl (iterList (items := [.str (lastP bk) t₃, .str (strI bk.line) (s₇.toks + 1 + 1), .str bk.name tn]) hA.hh stA (hP₉.at stA).isList fun I₂ o₂ sB fB hI₂ hneI₂ stB Wk₂ hst₂ hfp₂ kB =>
        ⟨I₂, _, _, _, _, _, _, _, _, rfl, Wk₂, (by rw [sizeLine_eq]; simp), hst₂, hfp₂, stB, ⟨?_, ?_⟩, fun D ys vs' S₁₀ sC hvn hvP hF fC hS₁₀ hP₁₀ stC => ?_⟩))
      · exact fun C i v s₃ m₃ E' hP hm st => wpAny_tests_nil ⟨rfl, keepsOf (Fro.refl _) fun _ _ e => e⟩
      · intro C i v s₃ m₃ E' hP _ hm stX
        obtain ⟨x, t, hx, rfl⟩ := strsAt hstrs hP
        exact cDef stX (by rfl) (by rfl) (by rfl) (args_cons (eLoc stX hm (args_nil ⟨stX.base, c_uab (hA.le (by decide)) W stX.base fun t' s' f k => ⟨⟨x, t, t', rfl, rfl⟩, keepsOf f k⟩⟩)))
      · rw [sameItems hvn hvP, List.filter_eq_self.2 (fun _ _ => rfl)] at hF
        cases hF with
        | cons q1 hF => cases hF with
          | cons q2 hF => cases hF with
            | cons q3 hF =>
              cases hF
              obtain ⟨x1, u1, w1, e1, rfl⟩ := q1
              obtain ⟨x2, u2, w2, e2, rfl⟩ := q2
              obtain ⟨x3, u3, w3, e3, rfl⟩ := q3
              injection e1 with e1 _
              injection e2 with e2 _
              injection e3 with e3 _
              subst e1 e2 e3
              refine starList (hP₁₀.at stC) (by simp) fun sD fD kD => ?_
              have stD := stC.keeps kD
              refine ⟨stD.K, ?_⟩
              have l1 := uab_len (lastP bk)
              have l2 := uab_len (strI bk.line)
              have l3 := uab_len bk.name
              have l4 := (lastP_ok hgb).1
              have l5 := (line_facts _ hgb.lo hgb.hi).2.2.2.2
              have l6 := hgb.name.1
              refine c_platform (hA.le (by decide)) W stD.base ⟨ps', stD.at1, htr'⟩ (by omega) (by omega) (by omega) fun r tr sE hoE hgE hkE hTE hrE => ?_
              obtain ⟨ps₂, h72, htr₂⟩ := hTE
              have stE := stD.mut1 h72 (fun b o hb e => hkE b o hb e)
              have hlab := plat_lab hgb hrE
              subst hlab
              refine ⟨_, _, _, stE, fun sF fF stF => ?_⟩
              have htabF : TabS w S₁₀ d (linesB (bs.take i)) := htab.mono fun b o e => hS₁₀ _ _ (hS₉ _ _ (hS₆ _ _ (hS₅ _ _ e)))
              -- table
              refine wpAny_execs_cons (aName W (cDef stF (by rfl) (by rfl) (by rfl) (args_cons (eLoc stF (v := .ref d) (by exact hmt) (args_cons (eDict1 stF (by rfl) (by rfl) fun e sG fG heS heT stG => ?_))))))
              have hlb := linesB_len (bs.take i)
              have hlt : (bs.take i).length ≤ 13 := by rw [List.length_take]; omega
              refine args_nil ⟨stG.base, c_addc (hA.le (by decide)) W stG.base hdS heS (htabF.at stG) heT (by simp; omega) fun d' sH fH kH hd'S hd'n hd'T => ?_⟩
              have stH := stG.keeps kH
              obtain ⟨S₁₁, hS₁₁, hT₁₁, stI⟩ := stH.adoptTab hd'T (fun e => by obtain ⟨oL, _, _, h1, _⟩ := stG.ns; rw [← e, hd'n] at h1; cases h1) (fun q hq e => by have := stG.mu q hq; rw [e, hd'n] at this; cases this)
              refine ⟨_, _, _, stI, fun sJ fJ stJ => wpAny_execs_nil ?_⟩
              have hFF : Fro sE sJ := fF.trans (fG.trans (fH.trans fJ))
              have hF0 : Fro s₄ sD := (Fro.mk' (s := s₄) s₄.heap k₁).trans (f₅.trans (f₆.trans (f₇.trans (Fro.trans f₈ (f₉.trans (fA.trans (fB.trans (fC.trans fD))))))))
              refine ⟨S₁₁, _, _, fun b o e => hS₁₁ _ _ (hS₁₀ _ _ (hS₉ _ _ (hS₆ _ _ (hS₅ _ _ e)))), stJ, ?_, ?_, d', ps₂, rfl, htr₂, rfl, hd'S, ?_, ?_⟩
              · obtain ⟨h1, t1, rfl⟩ := hFF
                obtain ⟨h2, t2, rfl⟩ := hF0
                exact hoE.trans hos
              · intro hG
                obtain ⟨h1, t1, rfl⟩ := hFF
                obtain ⟨h2, t2, rfl⟩ := hF0
                exact hgE (hgen hG)
              · cases e : s.heap.get? d' with
                | none => rfl
                | some o =>
                  by_cases h7 : d' = 72
                  · have := stG.at1; rw [← h7, hd'n] at this; cases this
                  · have := stG.keep d' o (hS₁₀ _ _ (hS₉ _ _ (hS₆ _ _ (hS₅ _ _ (hS _ _ (add1.up _ _ ⟨h7, e⟩))))))
                    rw [hd'n] at this; cases this
              · rw [linesB_take hbk]; exact hT₁₁
  · rintro S' l' m' s₄ hS ⟨hos, hgen, d, ps', rfl, htr', hmt, hdS, hdn, htab⟩ st₄
    refine wpAny_execs_cons (wpAny_Return_some (eLoc st₄ hmt ?_))
    rw [List.take_of_length_le (by rw [← hul]; simp)] at htab
    exact k d s₄ hos hgen (fun b o hb e => st₄.keep _ _ (hS _ _ (add1.up _ _ ⟨hb, e⟩))) ⟨ps', st₄.at0, htr'⟩ hdS hdn (htab.at st₄)
end Mine
end

section
set_option linter.unusedVariables false
set_option maxRecDepth 100000
set_option maxHeartbeats 2000000
namespace Mine
variable {w : World} {mg mb : Str → Option Value} {B : Heap} {A : Around} {E : Value → Shared → Prop} {s : Shared} {S : Addr → Obj → Prop} {l : List (Addr × Obj)} {m : Str → Option Value} {env : Env} {M : Model}
theorem St.perm {L : Addr} {h : Heap} {l' : List (Addr × Obj)} (t : St w mg mb B S l L m h) (hp : l.Perm l') : St w mg mb B S l' L m h :=
  ⟨t.W, t.ns, t.keep, t.off, t.sub, fun q hq => t.mu q (hp.mem_iff.2 hq), fun q hq => t.moff q (hp.mem_iff.2 hq), (hp.map _).nodup_iff.1 t.nd⟩
/-- a call of a def with two cells -/
theorem callKC {n : Nat} {f : Addr} {o : Obj} {name : Str} {params : Arguments} {body : List Stmt} {scope : Scope} {pm cd doc : Value} {args : List Value} {binds : List (Str × Value)} {x y : Str} {Q : Value → Shared → Prop}
    (hA : OkA A (n + 1)) (W : Wd w mg mb B) (hB : Kp B s.heap)
    (ho : (KK w).lookup f = some o) (hd : o.data = .func (Calls.docDef name params body scope pm cd doc)) (hcd : codeIn (KK w) cd name = true)
    (hbind : bindArgs (Calls.docDef name params body scope pm cd doc) ⟨args, []⟩ = pure binds)
    (hkind : ∀ x ∈ binds, scope.names.lookup x.1 = some .local)
    (hcs : ∀ L : Nat, cellsFrom (L + 1) scope.names [] = [(x, L + 2), (y, L + 1)]) (hnd : ((cellsFrom 0 scope.names []).map (·.1)).Nodup)
    (h : ∀ s₁ o1 o2 v1 v2, Fro s s₁ → o1.data = .cell v1 → o2.data = .cell v2 →
      St w mg mb B (fun b o => s.heap.get? b = some o) [(s.heap.objs.size + 2, o1), (s.heap.objs.size + 1, o2)] s.heap.objs.size (bindL (envOfC name scope s.heap.objs.size f cd).kindOf binds fun _ => none) s₁.heap → OkA (A.deeper (envOfC name scope s.heap.objs.size f cd)) n →
      wpAny (model PR w) (A.deeper (envOfC name scope s.heap.objs.size f cd)) (execs body (envOfC name scope s.heap.objs.size f cd)) (fun fl s' => Q (flv fl) s') (fun _ _ => False) s₁)
    (hco : scope.isCoroutine = false := by rfl) (hgen : scope.isGenerator = false := by rfl) (hk : scope.kind = .function := by rfl) :
    wpAny (model PR w) A (call (.ref f) args) Q E s := by
  have XK : (KK w).In s.heap := W.X.keeps hB
  refine wpAny_call ?_
  refine call_cellsN_ret (by have := hA.d; omega) (XK _ _ ho) hd (W.T.nolimit.keeps hB) (codeRec_of XK hcd) hbind (fun z hz => .inl (hkind z hz)) hnd (fun h₁ tk cells F N C => ?_) hco hgen hk
  rw [hcs] at C
  obtain ⟨o1, o2, rfl, e1, e2⟩ := C.two
  have n1 := N (s.heap.objs.size + 2, o1) (by simp)
  have n2 := N (s.heap.objs.size + 1, o2) (by simp)
  refine wpAny_mono (h { s with heap := h₁, toks := tk } o1 o2 _ _ (Fro.mk' _ _) e1 e2 ⟨W, F.ns, F.keep, fun o e => absurd (Heap.lt_size e) (Nat.lt_irrefl _), fun b o e => hB b o e, fun q hq => ?_, fun q hq => ?_, by simp⟩ (hA.deeper _)) (fun fl s' q => ?_) (fun _ _ x => x.elim)
  · have : q = (s.heap.objs.size + 2, o1) ∨ q = (s.heap.objs.size + 1, o2) := by simpa using hq
    rcases this with rfl | rfl
    · exact n1.1
    · exact n2.1
  · have : q = (s.heap.objs.size + 2, o1) ∨ q = (s.heap.objs.size + 1, o2) := by simpa using hq
    rcases this with rfl | rfl
    · exact ⟨n1.2.1, fun o e => by have := n1.2.2; rw [show s.heap.get? (s.heap.objs.size + 2) = some o from e] at this; cases this⟩
    · exact ⟨n2.2.1, fun o e => by have := n2.2.2; rw [show s.heap.get? (s.heap.objs.size + 1) = some o from e] at this; cases this⟩
  · cases fl <;> exact q
/-- a name that is a cell -/
theorem eCell {x : Str} {pos : Pos} {c : Addr} {v : Value} {Q : Value → Shared → Prop} (hc : env.cells.lookup x = some c) (hv : s.heap.IsCell c (some v)) (h : Q v s)
    (hk : env.scope.kind = .function := by rfl) (hl : env.kindOf x = some .cell := by rfl) (hd : (x == ("__debug__" : Str)) = false := by decide) :
    wpAny M A (eval (.Name x pos) env) Q E s := wpAny_Name (wpAny_loadName_cell hk hl hc hv h) hd
/-- x = e, x a cell that lies second -/
theorem aCell1 {x : Str} {p' pos : Pos} {value : Expr} {c : Addr} {Q : Flow → Shared → Prop} (hc : env.cells.lookup x = some c)
    (h : wpAny M A (eval value env) (fun v s₁ => ∃ S' l' m' o q v₀, St w mg mb B S' (q :: (c, o) :: l') env.locals m' s₁.heap ∧ o.data = .cell v₀ ∧ ∀ s' o', Fro s₁ s' → o'.data = .cell (some v) → St w mg mb B S' (q :: (c, o') :: l') env.locals m' s'.heap → Q .next s') E s)
    (hk : env.scope.kind = .function := by rfl) (hl : env.kindOf x = some .cell := by rfl) (hs : swapsWith value (some (.Name x p')) pos.line env = pure false := by rfl) :
    wpAny M A (exec (.Assign [.Name x p'] value pos) env) Q E s := by
  refine wpAny_Assign_Name (wpAny_mono h ?_ fun _ _ e => e) hs
  rintro v s₁ ⟨S', l', m', o, q, v₀, st, hd, k⟩
  refine wpAny_storeName_cell hk hl hc ⟨o, st.at1, hd⟩ fun h' hv hs' => ?_
  obtain ⟨o', ho', hd'⟩ := hv
  exact k _ o' ⟨_, _, rfl⟩ hd' (st.mut1 ho' hs'.extBut)
end Mine
end

section
set_option linter.unusedVariables false
set_option maxRecDepth 100000
set_option maxHeartbeats 2000000
namespace Mine
variable {w : World} {mg mb : Str → Option Value} {B : Heap} {A : Around} {E : Value → Shared → Prop} {s : Shared} {S : Addr → Obj → Prop} {l : List (Addr × Obj)} {m : Str → Option Value} {env : Env} {M : Model}
def hasLab (ls : List (Str × Int)) (lab : Str) (i : Nat) : Bool := decide ((ls[i]?).map (·.1) = some lab)
def idx (ls : List (Str × Int)) (lab : Str) : List Nat := (List.range ls.length).filter (hasLab ls lab)
theorem bump_at {lab : Str} {c : Int} : ∀ (ls : List (Str × Int)) (p : Nat) (c0 : Int), (∀ j, j < p → hasLab ls lab j = false) → ls[p]? = some (lab, c0) → bump ls lab c = ls.set p (lab, c0 + c) := by
  intro ls
  induction ls with
  | nil => intro p c0 _ h; simp at h
  | cons a r ih =>
    intro p c0 hj hp
    obtain ⟨a1, a2⟩ := a
    cases p with
    | zero =>
      simp at hp
      obtain ⟨rfl, rfl⟩ := hp
      simp [bump]
    | succ p =>
      have h0 := hj 0 (by omega)
      have hne : a1 ≠ lab := fun e => by simp [hasLab, e] at h0
      simp only [bump, if_neg hne, List.set_cons_succ]
      rw [ih p c0 (fun j hjp => by have := hj (j + 1) (by omega); simpa [hasLab] using this) (by simpa using hp)]
theorem bump_idx_nil {ls : List (Str × Int)} {lab : Str} {c : Int} (h : idx ls lab = []) : bump ls lab c = ls ++ [(lab, c)] := by
  apply bump_none
  have hall : ∀ p ∈ ls, p.1 ≠ lab := by
    intro p hp e
    obtain ⟨i, hi, rfl⟩ := List.getElem_of_mem hp
    have : i ∈ idx ls lab := List.mem_filter.2 ⟨List.mem_range.2 hi, by unfold hasLab; rw [List.getElem?_eq_getElem hi]; exact decide_eq_true (by simp [e])⟩
    rw [h] at this; cases this
  clear h
  induction ls with
  | nil => rfl
  | cons a r ih =>
    obtain ⟨a1, a2⟩ := a
    simp only [valT]
    rw [if_neg (hall (a1, a2) (List.mem_cons_self ..))]
    exact ih fun p hp => hall p (List.mem_cons_of_mem _ hp)
theorem idx_cons {ls : List (Str × Int)} {lab : Str} {p : Nat} {rest : List Nat} (h : idx ls lab = p :: rest) : p < ls.length ∧ (∃ c0, ls[p]? = some (lab, c0)) ∧ ∀ j, j < p → hasLab ls lab j = false := by
  unfold idx at h
  rw [List.range_eq_range'] at h
  obtain ⟨_, h2, h3, h4, _⟩ := filter_range'_cons _ _ _ _ _ h
  have hp : p < ls.length := by omega
  refine ⟨hp, ?_, fun j hj => h4 j (Nat.zero_le _) hj⟩
  unfold hasLab at h3
  rw [List.getElem?_eq_getElem hp] at h3 ⊢
  have h3 := of_decide_eq_true h3
  simp only [Option.map_some, Option.some.injEq] at h3
  exact ⟨ls[p].2, by rw [← h3]⟩
/-- a line of the law as it lies in the heap -/
def LnS (S : Addr → Obj → Prop) (v : Value) (q : Str × Int) : Prop := ∃ t tk tc, v = .ref t ∧ TupS S t [.str q.1 tk, .int q.2 tc]
theorem LnS.mono {S' : Addr → Obj → Prop} {v : Value} {q : Str × Int} (x : LnS S v q) (h : ∀ b o, S b o → S' b o) : LnS S' v q := let ⟨t, a, b, e, r⟩ := x; ⟨t, a, b, e, r.mono h⟩
theorem pairedSet {α β : Type} {F : α → β → Prop} {a : List α} {b : List β} (h : Paired F a b) (p : Nat) {x : α} {y : β} (hx : F x y) : Paired F (a.set p x) (b.set p y) := by
  induction h generalizing p with
  | nil => exact .nil
  | cons h1 h2 ih =>
    cases p with
    | zero => exact .cons hx h2
    | succ p => exact .cons h1 (ih p)
def pK (ls : List (Str × Int)) (lab : Str) (v : Value) : Bool := match v with | .int k _ => hasLab ls lab k.toNat | _ => false
theorem intsRange {vs : List Value} (h : ∀ (j : Nat) (v : Value), vs[j]? = some v → ∃ t, v = .int (0 + (j : Int)) t) : IntsAre vs ((List.range vs.length).map fun (i : Nat) => (i : Int)) := by
  have : ∀ (vs : List Value) (k : Nat), (∀ (j : Nat) (v : Value), vs[j]? = some v → ∃ t, v = .int ((k + j : Nat) : Int) t) → IntsAre vs ((List.range' k vs.length).map fun (i : Nat) => (i : Int)) := by
    intro vs
    induction vs with
    | nil => intro k _; exact .nil
    | cons a r ih =>
      intro k hk
      obtain ⟨t, rfl⟩ := hk 0 a rfl
      rw [List.length_cons, List.range'_succ, List.map_cons]
      exact .cons _ _ (ih (k + 1) fun j v hv => by have := hk (j + 1) v (by simpa using hv); rw [show k + 1 + j = k + (j + 1) from by omega]; exact this)
  rw [List.range_eq_range']
  exact this vs 0 fun j v hv => by obtain ⟨t, e⟩ := h j v hv; exact ⟨t, by rw [e]; simp⟩
theorem intsFilter {vs : List Value} {is : List Nat} (ls : List (Str × Int)) (lab : Str) (h : IntsAre vs (is.map fun (i : Nat) => (i : Int))) : IntsAre (vs.filter (pK ls lab)) ((is.filter (hasLab ls lab)).map fun (i : Nat) => (i : Int)) := by
  induction is generalizing vs with
  | nil => cases h; exact .nil
  | cons i r ih =>
    cases h with
    | cons n t h =>
      rw [List.filter_cons, List.filter_cons]
      have e : pK ls lab (.int ((i : Nat) : Int) t) = hasLab ls lab i := by show hasLab ls lab ((i : Int)).toNat = _; rw [Int.toNat_natCast]
      rw [e]
      by_cases hb : hasLab ls lab i = true
      · rw [if_pos hb, if_pos hb]; exact .cons _ _ (ih h)
      · rw [if_neg hb, if_neg hb]; exact ih h
/-- l[k] = v -/
theorem setItemP {D : Addr} {xs : List Value} {n : Nat} {k : Int} {t : Tok} {v : Value} {Q : Unit → Shared → Prop} (ho : s.heap.get? D = some (lobj xs n)) (h0 : 0 ≤ k) (hfit : k < 2 ^ 63) (hk : k < xs.length)
    (hQ : ∀ n' h', h'.get? D = some (lobj (xs.set k.toNat v) n') → Heap.SameBut D s.heap h' → Q () { s with heap := h' }) :
    wpAny (model PR w) A (setItem (.ref D) (.int k t) v) Q E s := by
  obtain ⟨n', e⟩ := updObj ho (fun ys => ys.setIfInBounds k.toNat v) (xs.set k.toNat v) (by simp)
  exact ki_setAt ho h0 hfit (by simpa using hk) (hQ n' _ e (Heap.SameBut.update ..))
theorem perm3 {α : Type} (x y z : α) (l : List α) : (x :: y :: z :: l).Perm (z :: x :: y :: l) := by
  have h1 : (x :: y :: z :: l).Perm (x :: z :: y :: l) := (List.Perm.swap z y l).cons x
  exact h1.trans (List.Perm.swap z x (y :: l))
/-- D.append(x), D the third of the owned -/
theorem mAppend2 {L D : Addr} {us : List Value} {n : Nat} {x y : Addr × Obj} {pos : Pos} {a : Sem Value} {Q : Value → Shared → Prop} (t : St w mg mb B S (x :: y :: (D, lobj us n) :: l) L m s.heap) (hsz : us.length ≤ 1000)
    (h : wpAny (model PR w) A a (fun v s₁ => ∃ S', St w mg mb B S' (x :: y :: (D, lobj us n) :: l) L m s₁.heap ∧ ∀ n' s', Fro s₁ s' → St w mg mb B S' (x :: y :: (D, lobj (us ++ [v]) n') :: l) L m s'.heap → Q .none s') E s) :
    MethodOnS PR w A E "append" (.ref D) pos [(false, a)] Q s := by
  refine mAppend0 (t.perm (perm3 _ _ _ _)) (by rw [sizeLine_eq]; omega) (wpAny_mono h ?_ fun _ _ e => e)
  rintro v s₁ ⟨S', t', k⟩
  exact ⟨S', x :: y :: l, m, us, n, by rw [sizeLine_eq]; omega, t'.perm (perm3 _ _ _ _), fun n'' s' f t'' => k n'' s' f (t''.perm (perm3 _ _ _ _).symm)⟩
end Mine
end

section
set_option linter.unusedVariables false
set_option maxRecDepth 100000
set_option maxHeartbeats 2000000
namespace Mine
variable {w : World} {mg mb : Str → Option Value} {B : Heap} {A : Around} {E : Value → Shared → Prop} {s : Shared} {S : Addr → Obj → Prop} {l : List (Addr × Obj)} {m : Str → Option Value} {env : Env} {M : Model}
theorem smallAll : (List.range 14).all (fun n => Builtin.Range.small 0 n 1) = true := by decide +kernel
/-- the iterator of range(n) -/
theorem iterRange {L : Addr} {n : Nat} {t : Tok} {Q : Value → Shared → Prop} (hA : A.handled = none) (st : St w mg mb B S l L m s.heap) (hn : n ≤ 13)
    (h : ∀ I o s', Fro s s' → s.heap.get? I = none → St w mg mb B S ((I, o) :: l) L m s'.heap → Walks PR w A I [I] [I] n (fun i v => i < n ∧ ∃ t, v = .int (0 + (i : Int) * 1) t) (fun i h => IsRangeIter h I (0 + ((i : Nat) : Int) * 1) ((n : Int) - ((i : Nat) : Int)) 1) →
      IsRangeIter s'.heap I (0 + ((0 : Nat) : Int) * 1) ((n : Int) - ((0 : Nat) : Int)) 1 → (∀ b ∈ [I], b < s'.heap.objs.size) → Kp s.heap s'.heap → Q (.ref I) s') :
    wpAny (model PR w) A (call (.type "range") [.int (n : Int) t]) (fun xv s₁ => wpAny (model PR w) A (pyIter xv) Q E s₁) E s := by
  refine call_range_1 ?_
  have hsm : Builtin.Range.small 0 (n : Int) 1 = true := List.all_eq_true.1 smallAll n (List.mem_range.2 (by omega))
  refine wpAny_pyIter_range (a := 0) (b := (n : Int)) (c := 1) (Heap.get?_push_size _ rfl) hsm ?_
  have hrs : Builtin.Range.rangeSize 0 (n : Int) 1 = (n : Int) := by rw [rangeSize_nat]; omega
  have st₁ := st.pushN { cls := .type "range", data := .fields #[.int 0 s.toks, .int (n : Int) t, .int 1 (s.toks + 1)] }
  have st₂ := st₁.pushM { cls := .type "range_iterator", data := .fields #[rawInt 0, rawInt (Builtin.Range.rangeSize 0 (n : Int) 1), rawInt 1] }
  refine h _ _ _ ⟨_, _, rfl⟩ ?_ st₂ (Walks.range hA _ 0 1 n).bound ?_ (fun b hb => ?_) (fun _ _ e => Heap.get?_push_of_some _ (Heap.get?_push_of_some _ e))
  · cases e : s.heap.get? (s.heap.push { cls := .type "range", data := .fields #[.int 0 s.toks, .int (n : Int) t, .int 1 (s.toks + 1)] }).objs.size with
    | none => rfl
    | some o =>
      have := Heap.lt_size e
      rw [Heap.size_push] at this
      exact absurd this (Nat.not_lt.2 (Nat.le_succ _))
  · refine st₂.at0.trans ?_
    rw [hrs]
    simp
  · rw [List.mem_singleton.1 hb]; exact Heap.lt_size st₂.at0
theorem St.mut2 {L a : Addr} {p p' : Obj} {x y : Addr × Obj} {h h' : Heap} (t : St w mg mb B S (x :: y :: (a, p) :: l) L m h) (hp : h'.get? a = some p') (hs : Heap.ExtBut a h h') : St w mg mb B S (x :: y :: (a, p') :: l) L m h' :=
  ((t.perm (perm3 _ _ _ _)).mut0 hp hs).perm (perm3 _ _ _ _).symm
theorem St.at2 {L a : Addr} {p : Obj} {x y : Addr × Obj} {h : Heap} (t : St w mg mb B S (x :: y :: (a, p) :: l) L m h) : h.get? a = some p := t.mu (a, p) (by simp)
theorem c_lines {a : Addr} {us : List Value} {bs : List Bk} {Q : Value → Shared → Prop} (hA : OkA A 7) (W : Wd w mg mb B) (hB : Kp B s.heap) (hl : PLh s.heap a us) (hbs : Paired (BkS fun b o => s.heap.get? b = some o) us bs) (hg : ∀ b ∈ bs, GoodBk b) (hn : bs.length ≤ 13)
    (k : ∀ b ls s', Fro s s' → Kp s.heap s'.heap → PLh s'.heap b ls → Paired (LnS fun b o => s'.heap.get? b = some o) ls (linesB bs) → Q (.ref b) s') :
    wpAny (model PR w) A (call (.ref 108) [.ref a]) Q E s := by
  refine callKC (n := 6) (x := "label") (y := "lines") hA W hB (by rfl) (by rfl) (by rfl) (by rfl) (locs rfl) (fun L => by rfl) (by decide) ?_
  intro s₁ o2 o1 v2 v1 f₁ e2 e1 st hA
  have hul := hbs.length
  have hPL : PL (fun b o => s.heap.get? b = some o) a us := hl
  refine wpAny_execs_cons (aCell1 (c := s.heap.objs.size + 1) (by rfl) (List_ (args_nil (mkListM st.swap2 fun D s₂ f₂ st₂ k₂ => ⟨_, _, _, o1, _, v1, st₂, e1, fun s₃ o1' f₃ e1' st₃ => ?_⟩))))
  have st₄ := st₃.swap2.freeze.swap2
  have hPL4 := hPL.mono (add1.up (a := s.heap.objs.size + 1) (p := o1'))
  refine wpAny_execs_cons (wpAny_For (eLoc st₄ rfl (iterList hA.hh st₄ (hPL4.at st₄).isList fun I o s₅ f₅ hI hneI st₅ Wk hst hfp k₅ => ?_)))
  refine loop4c hA.hh hPL4.listS (bkG (Paired.mono (fun v b (h : BkS _ v b) => h.mono add1.up) hbs) hg)
    (fun i S' l' m' s' => Fro s s' ∧ ∃ ob v ls n, l' = [(s.heap.objs.size + 2, ob), (D, lobj ls n)] ∧ ob.data = .cell v ∧ Paired (LnS S') ls (linesB (bs.take i)))
    (fun i S l m s s' f h => ⟨h.1.trans f, h.2⟩) st₅ hst.1 ⟨f₁.trans (f₂.trans (f₃.trans f₅)), o2, v2, [], 0, rfl, e2, .nil⟩ ?_ ?_
  · rintro i u1 u2 u3 u4 S' l' m' o' s₆ hi ⟨bk, p, pv, tl, tn, tc, hbk, hgb, rfl, hpl, hpv, rfl, rfl, rfl⟩ hS ⟨hf, ob, v0, ls, n, rfl, hob, hls⟩ hcls st₆
    have hc1 : S' (s.heap.objs.size + 1) o1' := hS _ _ add1.new
    have hll := hls.length
    have hlb := linesB_len (bs.take i)
    have hlt : (bs.take i).length ≤ 13 := by rw [List.length_take]; omega
    have hll13 : ls.length ≤ 13 := by omega
    obtain ⟨lx, tlx, hl1, hl2⟩ := strsLast hpv hgb.ne
    have hlx : lx = lastP bk := Option.some.inj (hl1.symm.trans (lastP_mem hgb).1)
    subst hlx
    -- label
    refine wpAny_execs_cons (aCell1 (w := w) (mg := mg) (mb := mb) (B := B) (c := s.heap.objs.size + 2) (by rfl) (cDef st₆ (by rfl) (by rfl) (by rfl) (args_cons (List_ ?_))))
    refine args_cons (eLast st₆ (by rfl) ((hpl.mono hS).at st₆) hl2 fun tk => ?_)
    refine args_cons (Call_ (eBlt (s := { s₆ with toks := tk }) st₆ (v := .type "str") (by rfl) (by rfl) (by decide) (PyProof.Rows.callWith_type1 (args_cons (eLoc (s := { s₆ with toks := tk }) st₆ rfl (args_nil (P.str_of_int (log2_small hgb.lo hgb.hi) ?_)))))))
    refine args_cons (eLoc (s := { s₆ with toks := tk + 1 }) st₆ rfl (args_nil (mkListP (s := { s₆ with toks := tk + 1 }) st₆ fun tx S₇ s₇ f₇ hS₇ hP₇ st₇ k₇ => ?_)))
    have l4 := (lastP_ok hgb).1
    have l5 := (line_facts _ hgb.lo hgb.hi).2.2.2.2
    have l6 := hgb.name.1
    refine args_nil ⟨st₇.base, c_label (ts := [lastP bk, strI bk.line, bk.name]) (hA.le (by decide)) W st₇.base (hP₇.at st₇) (.cons _ _ (.cons _ _ (.cons _ _ .nil))) (by simp) (fun t ht => ?_) (words_ne _ _ _ hgb.lo hgb.hi) fun tlab s₈ f₈ k₈ => ?_⟩
    · have : t = lastP bk ∨ t = strI bk.line ∨ t = bk.name := by simpa using ht
      rcases this with rfl | rfl | rfl <;> omega
    · refine ⟨_, _, _, ob, _, v0, st₇.keeps k₈, hob, fun s₉ ob' f₉ hob' st₉ => ?_⟩
      have hlab : labelL [lastP bk, strI bk.line, bk.name] = labB bk := rfl
      rw [hlab] at hob'
      have hls9 : Paired (LnS S₇) ls (linesB (bs.take i)) := Paired.mono (fun v b (h : LnS S' v b) => h.mono hS₇) hls
      have hc9 : S₇ (s.heap.objs.size + 1) o1' := hS₇ _ _ hc1
      have hF9 : Fro s s₉ := hf.trans (Fro.trans (Fro.mk' (s := s₆) s₆.heap (tk + 1)) (Fro.trans f₇ (Fro.trans f₈ f₉)))
      generalize hTab : linesB (bs.take i) = tab at *
      -- places
      refine wpAny_execs_cons (aComp (w := w) (mg := mg) (mb := mb) (B := B) [("lines", s.heap.objs.size + 1), ("label", s.heap.objs.size + 2)] (pK tab (labB bk)) (fun v y => y = v) (by rfl) (by rfl) (by decide) (by decide) (by decide) ?_)
      refine Call_ (eBlt st₉ (v := .type "range") (by rfl) (by rfl) (by decide) (PyProof.Rows.callWith_type1 (args_cons (Call_ (eBlt st₉ (v := .builtin "len") (by rfl) (by rfl) (by decide) (PyProof.Rows.callWith_builtin1 (args_cons ?_)))))))
      have hD9 : s₉.heap.IsList D ls.toArray := ⟨_, st₉.at2, rfl, n, rfl⟩
      refine eCell (c := s.heap.objs.size + 1) (v := .ref D) (by rfl) ⟨o1', st₉.keep _ _ hc9, e1'⟩ (args_nil (PyProof.Rows.len_list hD9 (by simp; omega) (args_nil ?_)))
      refine iterRange (n := ls.length) (s := { s₉ with toks := s₉.toks + 1 + 1 }) hA.hh st₉ (by omega) fun I₂ oI s₁₀ f₁₀ hfr₂ st₁₀ Wk₂ hst₂ hfp₂ k₁₀ => ?_
      refine ⟨I₂, _, _, _, _, _, _, _, _, rfl, Wk₂, (by rw [sizeLine_eq]; omega), hst₂, hfp₂, st₁₀, ⟨?_, ?_⟩, fun D₂ ys vs' S₈ s₁₁ hvn hvP hF f₁₁ hS₈ hP₈ st₁₁ => ?_⟩
      · intro C j v s₁₂ m₃ E' hP hmx stX
        obtain ⟨hj, tj, rfl⟩ := hP
        have up : ∀ b o, s₉.heap.get? b = some o → s₁₂.heap.get? b = some o := fun b o e => stX.keep b o ⟨fun q => (by rw [q] at e; exact absurd (e.symm.trans hfr₂) (by simp)), k₁₀ b o e⟩
        have hjt : (0 + (j : Int) * 1).toNat = j := by omega
        obtain ⟨q, hq, t, tk, tc', hv, hT⟩ := pairedGet hls9 (List.getElem?_eq_getElem hj)
        have hTX : IsTup s₁₂.heap t [Value.str q.1 tk, .int q.2 tc'].toArray := let ⟨o, e, r⟩ := hT.at st₉; ⟨o, up _ _ e, r⟩
        have hDX : s₁₂.heap.IsList D ls.toArray := let ⟨o, e, r⟩ := hD9; ⟨o, up _ _ e, r⟩
        refine wpAny_tests_one (wpAny_isTrue_Compare1 (Subscript_ (Subscript_ (eCell (c := s.heap.objs.size + 1) (v := .ref D) (by rfl) ⟨o1', up _ _ (st₉.keep _ _ hc9), e1'⟩ (eLoc stX hmx ?_)))))
        refine itemL hDX (by omega) (by omega) (x := .ref t) (by rw [hjt, List.getElem?_eq_getElem hj, hv]) ?_
        refine wpAny_Constant_int (item_tupleT (s := { s₁₂ with toks := s₁₂.toks + 1 }) (l := [.str q.1 tk, .int q.2 tc']) hTX (by decide) (by decide) (by rfl) (by rfl) ?_)
        refine eCell (c := s.heap.objs.size + 2) (v := .str (labB bk) tlab) (by rfl) ⟨ob', up _ _ st₉.at1, hob'⟩ (eq_str (wpAny_truthy_bool ⟨?_, keepsOf ⟨_, _, rfl⟩ fun _ _ e => e⟩))
        show (q.1 == labB bk) = hasLab tab (labB bk) (0 + (j : Int) * 1).toNat
        rw [hjt, strB]
        unfold hasLab
        rw [hq]
        exact decide_eq_decide.2 (by simp)
      · intro C j v s₁₂ m₃ E' hP hp hmx stX
        exact eLoc stX hmx ⟨rfl, keepsOf (Fro.refl _) fun _ _ e => e⟩
      · have hys := pairedEq hF
        subst hys
        have hints : IntsAre (vs'.filter (pK tab (labB bk))) ((idx tab (labB bk)).map fun (i : Nat) => (i : Int)) := by
          have h1 := intsRange (vs := vs') fun j v hv => by obtain ⟨_, t, e⟩ := hvP j v hv; exact ⟨t, by rw [e]; simp⟩
          have h2 := intsFilter tab (labB bk) h1
          unfold idx
          rw [← hll, ← hvn]; exact h2
        generalize vs'.filter (pK tab (labB bk)) = ys at *
        have hls11 : Paired (LnS S₈) ls tab := Paired.mono (fun v b (h : LnS S₇ v b) => h.mono hS₈) hls9
        have hc11 := hS₈ _ _ hc9
        refine wpAny_execs_cons (wpAny_If (wpAny_isTrue_Compare1 (eLoc st₁₁ rfl (List_ (args_nil (mkListP st₁₁ fun e S₉ s₁₂ f₁₂ hS₉ hP₉ st₁₂ k₁₂ => ?_))))))
        obtain ⟨nD₂, hD₂⟩ := (hP₈.mono hS₉).at st₁₂
        obtain ⟨nE, hE⟩ := hP₉.at st₁₂
        have hls12 : Paired (LnS S₉) ls tab := Paired.mono (fun v b (h : LnS S₈ v b) => h.mono hS₉) hls11
        have hc12 := hS₉ _ _ hc11
        have hF12 : Fro s s₁₂ := hF9.trans (Fro.trans (Fro.mk' (s := s₉) s₉.heap (s₉.toks + 1 + 1)) (Fro.trans f₁₀ (f₁₁.trans f₁₂)))
        have hmono : ∀ b o, S' b o → S₉ b o := fun b o e => hS₉ _ _ (hS₈ _ _ (hS₇ _ _ e))
        have hu := hA.u
        cases hidx : idx tab (labB bk) with
        | nil =>
          rw [hidx] at hints
          cases hints
          refine P.eq_list (e := fun _ => true) hD₂ hE (by simp) (fun j h1 => by simp at h1) (by omega) (wpAny_truthy_bool ?_)
          refine wpAny_execs_cons (wpAny_Expr (Call_method1 (by rfl) (by rfl) (by rfl) (eCell (c := s.heap.objs.size + 1) (v := .ref D) (by rfl) ⟨o1', st₁₂.keep _ _ hc12, e1'⟩ (mAppend2 st₁₂ (by omega) (Tuple_ (args_cons ?_))))))
          refine eCell (c := s.heap.objs.size + 2) (v := .str (labB bk) tlab) (by rfl) ⟨ob', st₁₂.at1, hob'⟩ (args_cons (eLoc st₁₂ rfl (args_nil (mkTupP st₁₂ fun t S₁₀ s₁₃ f₁₃ hS₁₀ hT st₁₃ k₁₃ => ⟨S₁₀, st₁₃, fun n' s₁₄ f₁₄ st₁₄ => wpAny_execs_nil (wpAny_execs_nil ?_)⟩))))
          have hlen := linesB_take hbk
          rw [hTab, bump_idx_nil hidx] at hlen
          refine ⟨S₁₀, _, _, fun b o e => hS₁₀ _ _ (hmono _ _ e), st₁₄, hF12.trans (f₁₃.trans f₁₄), ob', _, _, n', rfl, hob', ?_⟩
          rw [hlen]
          exact (Paired.mono (fun v b (h : LnS S₉ v b) => h.mono hS₁₀) hls12).snoc ⟨t, _, _, rfl, hT⟩
        | cons p rest =>
          rw [hidx] at hints
          obtain ⟨hp, ⟨c0, hc0⟩, hfst⟩ := idx_cons hidx
          obtain ⟨tp, yr, rfl⟩ : ∃ tp yr, ys = .int (p : Int) tp :: yr := by cases hints with | cons n t h => exact ⟨_, _, rfl⟩
          have hplen : p < ls.length := by omega
          have hpt : ((p : Nat) : Int).toNat = p := Int.toNat_natCast _
          obtain ⟨q, hq, t0, tk0, tc0, hv0, hT0⟩ := pairedGet hls12 (List.getElem?_eq_getElem hplen)
          rw [hc0] at hq
          cases hq
          refine P.eq_list_lengths hD₂ hE (by simp) (by omega) (wpAny_truthy_bool ?_)
          refine wpAny_execs_cons (wpAny_Assign_Subscript (Tuple_ (args_cons ?_)))
          refine eCell (c := s.heap.objs.size + 2) (v := .str (labB bk) tlab) (by rfl) ⟨ob', st₁₂.at1, hob'⟩ (args_cons (wpAny_BinOp (Subscript_ (Subscript_ ?_))))
          refine eCell (c := s.heap.objs.size + 1) (v := .ref D) (by rfl) ⟨o1', st₁₂.keep _ _ hc12, e1'⟩ ?_
          refine eItem (j := 0) st₁₂ rfl ⟨_, hD₂⟩ (by decide) (by decide) (by rfl) fun tk1 => ?_
          refine itemL (s := { s₁₂ with toks := tk1 }) ⟨_, st₁₂.at2, rfl, n, rfl⟩ (by omega) (by omega) (x := .ref t0) (by rw [hpt, List.getElem?_eq_getElem hplen, hv0]) ?_
          refine wpAny_Constant_int (item_tupleT (s := { s₁₂ with toks := tk1 + 1 }) (l := [.str (labB bk) tk0, .int c0 tc0]) (hT0.at st₁₂) (by decide) (by decide) (by rfl) (by rfl) ?_)
          refine eLoc (s := { s₁₂ with toks := tk1 + 1 }) st₁₂ rfl (P.add_int (args_nil ?_))
          refine mkTupP (s := { s₁₂ with toks := tk1 + 1 + 1 }) st₁₂ fun t S₁₀ s₁₃ f₁₃ hS₁₀ hT st₁₃ k₁₃ => ?_
          refine eCell (c := s.heap.objs.size + 1) (v := .ref D) (by rfl) ⟨o1', st₁₃.keep _ _ (hS₁₀ _ _ hc12), e1'⟩ ?_
          refine eItem (j := 0) st₁₃ rfl ((hP₈.mono fun b o e => hS₁₀ _ _ (hS₉ _ _ e)).at st₁₃) (by decide) (by decide) (by rfl) fun tk2 => ?_
          refine setItemP (s := { s₁₃ with toks := tk2 }) st₁₃.at2 (by omega) (by omega) (by omega) fun n' h' hn' hs' => wpAny_execs_nil (wpAny_execs_nil ?_)
          have st₁₄ := st₁₃.mut2 hn' hs'.extBut
          have hlen := linesB_take hbk
          rw [hTab, bump_at tab p c0 hfst hc0] at hlen
          refine ⟨S₁₀, _, _, fun b o e => hS₁₀ _ _ (hmono _ _ e), st₁₄, hF12.trans (Fro.trans (Fro.mk' (s := s₁₂) s₁₂.heap (tk1 + 1 + 1)) (Fro.trans f₁₃ (Fro.mk' _ _))), ob', _, _, n', rfl, hob', ?_⟩
          rw [hlen, hpt]
          exact pairedSet (Paired.mono (fun v b (h : LnS S₉ v b) => h.mono hS₁₀) hls12) p ⟨t, _, _, rfl, hT⟩
  · rintro S' l' m' s₆ hS ⟨hf, ob, v0, ls, n, rfl, hob, hls⟩ st₆
    have hc1 : S' (s.heap.objs.size + 1) o1' := hS _ _ add1.new
    rw [List.take_of_length_le (by rw [← hul]; simp)] at hls
    refine wpAny_execs_cons (wpAny_Return_some (eCell (c := s.heap.objs.size + 1) (v := .ref D) (by rfl) ⟨o1', st₆.keep _ _ hc1, e1'⟩ ?_))
    exact k D ls s₆ hf (fun b o e => st₆.keep _ _ (hS _ _ (add1.up _ _ e))) ⟨n, st₆.at1⟩ (Paired.mono (fun v b (h : LnS S' v b) => h.mono st₆.keep) hls)
end Mine
end

section
set_option linter.unusedVariables false
set_option maxRecDepth 100000
set_option maxHeartbeats 2000000
namespace Mine
variable {w : World} {mg mb : Str → Option Value} {B : Heap} {A : Around} {E : Value → Shared → Prop} {s : Shared} {S : Addr → Obj → Prop} {l : List (Addr × Obj)} {m : Str → Option Value} {env : Env} {M : Model}
theorem eqStr (A : Around) (s : Shared) (x : Str) (t u : Tok) : SeqAt.EqAt A s (.str x t) (.str x u) true := by
  have := SeqAt.EqAt.str_str (A := A) (s := s) x t x u
  rwa [beq_self_eq_true] at this
theorem eqInt (A : Around) (s : Shared) (x : Int) (t u : Tok) : SeqAt.EqAt A s (.int x t) (.int x u) true := by
  have := SeqAt.EqAt.int_int (A := A) (s := s) x t x u
  rwa [beq_self_eq_true] at this
theorem allTrue (n : Nat) : (List.range n).all (fun _ => true) = true := List.all_eq_true.2 fun _ _ => rfl
theorem pairedOf {α β : Type} {F : α → β → Prop} : ∀ {a : List α} {b : List β}, a.length = b.length → (∀ (j : Nat) x y, a[j]? = some x → b[j]? = some y → F x y) → Paired F a b
  | [], [], _, _ => .nil
  | x :: a, y :: b, hl, h => .cons (h 0 x y rfl rfl) (pairedOf (Nat.succ.inj hl) fun j x y h1 h2 => h (j + 1) x y h1 h2)
theorem strKey {k : Str} {v : Value} (h : (KD w).is k v = true) : ∃ t, v = .str k t := Value.isStrOf_shape h
/-- two like triples are not unlike -/
theorem neTup {a b : Addr} {x : Str} {t u : Tok} {y z : Value} {Q : Value → Shared → Prop} (ha : IsTup s.heap a #[.str x t, y, z]) (hb : IsTup s.heap b #[.str x u, y, z]) (hu : A.units + 4 < cLine) (h : Q (.bool false) s) :
    wpAny (model PR w) A (compareOp .NotEq (.ref a) (.ref b)) Q E s := by
  refine SeqAt.RcNeAt.tuples (A := A) (e := fun _ => true) ha hb (by omega) (fun j h1 h2 => ?_) PR w E Q (by simpa [allTrue] using h)
  match j, h1 with
  | 0, _ => exact eqStr _ _ _ _ _
  | 1, _ => exact SeqAt.EqAt.same _
  | 2, _ => exact SeqAt.EqAt.same _
  | j + 3, h => simp at h; omega
theorem eqLn {v v' : Value} {q : Str × Int} (h1 : LnS (fun b o => s.heap.get? b = some o) v q) (h2 : LnS (fun b o => s.heap.get? b = some o) v' q) (hu : A.units + 4 < cLine) : SeqAt.EqAt A s v v' true := by
  obtain ⟨t, tk, tc, rfl, o, e1, e2, n, e3⟩ := h1
  obtain ⟨t', tk', tc', rfl, o', e1', e2', n', e3'⟩ := h2
  by_cases hne : t = t'
  · subst hne; exact SeqAt.EqAt.same _
  · refine SeqAt.EqAt.of_refs hne ?_
    have := SeqAt.RcAt.tuples (A := A) (s := s) (e := fun _ => true) ⟨o, e1, e2, n, e3⟩ ⟨o', e1', e2', n', e3'⟩ (by omega) (fun j h1 h2 => ?_)
    · simpa [allTrue] using this
    · match j, h1 with
      | 0, _ => exact eqStr _ _ _ _ _
      | 1, _ => exact eqInt _ _ _ _ _
      | j + 2, h => simp at h; omega
theorem pairedAt {α β : Type} {F : α → β → Prop} {a : List α} {b : List β} (h : Paired F a b) {i : Nat} (h1 : i < a.length) : ∃ h2 : i < b.length, F a[i] b[i] := by
  obtain ⟨y, hy, hf⟩ := pairedGet h (List.getElem?_eq_getElem h1)
  obtain ⟨h2, rfl⟩ := List.getElem?_eq_some_iff.1 hy
  exact ⟨h2, hf⟩
theorem neList {a b : Addr} {us ls : List Value} {tab : List (Str × Int)} {Q : Value → Shared → Prop} (ha : PLh s.heap a us) (hb : PLh s.heap b ls) (h1 : Paired (LnS fun b o => s.heap.get? b = some o) us tab) (h2 : Paired (LnS fun b o => s.heap.get? b = some o) ls tab)
    (hu : A.units + 6 < cLine) (h : Q (.bool false) s) : wpAny (model PR w) A (compareOp .NotEq (.ref a) (.ref b)) Q E s := by
  have hl1 := h1.length
  have hl2 := h2.length
  refine SeqAt.RcNeAt.lists (A := A) (e := fun _ => true) ha.isList hb.isList (by simp; omega) (by omega) (fun j k1 k2 => ?_) PR w E Q (by simpa [allTrue] using h)
  simp at k1 k2
  obtain ⟨g1, r1⟩ := pairedAt h1 k1
  obtain ⟨g2, r2⟩ := pairedAt h2 k2
  have := eqLn (A := A.in1) (s := s) r1 r2 (by show A.units + 1 + 4 < _; omega)
  simpa using this
theorem preSum_take (cs : List Int) : ∀ n, n ≤ cs.length → preSum (fun i => cs.getD i 0) n = (cs.take n).sum := by
  intro n
  induction n with
  | zero => intro _; simp [preSum]
  | succ n ih =>
    intro h
    have : cs[n]? = some cs[n] := List.getElem?_eq_getElem (by omega)
    rw [preSum, ih (by omega), takeSucc this, List.sum_append]
    simp [List.getD, this]
/-- sum of a list of ints -/
theorem sumList {D : Addr} {ys : List Value} {cs : List Int} {Q : Value → Shared → Prop} (hA : A.handled = none) (hl : PLh s.heap D ys) (hi : Paired (fun (v : Value) (c : Int) => ∃ t, v = .int c t) ys cs)
    (k : ∀ t s', Fro s s' → Kp s.heap s'.heap → Q (.int cs.sum t) s') : wpAny (model PR w) A (call (.builtin "sum") [.ref D]) Q E s := by
  have hL := hl.isList
  have hlt : D < s.heap.objs.size := let ⟨o, e, _⟩ := hL; Heap.lt_size e
  refine call_sum_walkG (wpAny_pyIter_list hL ?_)
  refine ⟨_, _, _, _, _, _, fun i => cs.getD i 0, rfl, Walks.list (A := A.in1) hA _ D (Nat.ne_of_lt hlt) ys.toArray, ⟨⟨_, Heap.get?_push_size _ rfl, rfl, rfl⟩, hL.push _⟩, (fun b hb => ?_), (fun i v hv => ?_), fun h' tk t' hk => ?_⟩
  · show b < (s.heap.push _).objs.size
    rw [Heap.size_push]
    rcases List.mem_cons.mp hb with rfl | hb
    · exact Nat.lt_succ_self _
    · rw [List.mem_singleton.1 hb]; exact Nat.lt_succ_of_lt hlt
  · obtain ⟨c, hc, t, rfl⟩ := pairedGet hi (by simpa using hv)
    exact ⟨t, by simp [List.getD, hc]⟩
  · have e : preSum (fun i => cs.getD i 0) ys.toArray.size = cs.sum := by
      rw [List.size_toArray, hi.length, preSum_take cs _ (Nat.le_refl _), List.take_length]
    rw [e]
    refine k _ _ ⟨_, _, rfl⟩ fun b o e => hk b o (fun hm => ?_) (Heap.get?_push_of_some _ e)
    rw [List.mem_singleton.1 hm] at e
    exact absurd (Heap.lt_size e) (Nat.lt_irrefl _)
theorem sumTab_bump (t : List (Str × Int)) (k : Str) (c : Int) : sumTab (bump t k c) = sumTab t + c := by
  induction t with
  | nil => simp [bump, sumTab]
  | cons a r ih =>
    obtain ⟨a1, a2⟩ := a
    unfold bump
    unfold sumTab at *
    split
    · simp; omega
    · simp [ih]; omega
theorem sumTab_bumps (r : List (Str × Int)) : ∀ t, sumTab (bumps t r) = sumTab t + sumTab r := by
  induction r with
  | nil => intro t; simp [bumps, sumTab]
  | cons a r ih =>
    intro t
    have := ih (bump t a.1 a.2)
    unfold bumps at *
    rw [List.foldl_cons, this, sumTab_bump]
    simp [sumTab]; omega
theorem sum_lines (bs : List Bk) : sumTab (linesB bs) = (bs.map (·.count)).sum := by
  unfold linesB
  rw [sumTab_bumps]
  simp [sumTab, Function.comp_def]
/-- list(d.items()) -/
theorem listItems {r d : Addr} {kvs : List (Str × Value)} {ep : Nat} {tab : List (Str × Int)} {Q : Value → Shared → Prop} (hh : A.handled = none) (hv : s.heap.IsItemsView r d) (hm : s.heap.DictAt (KD w) d kvs ep) (hp : Paired IsKV kvs tab) (hn : kvs.length ≤ sizeLine)
    (k : ∀ D us s', Fro s s' → Kp s.heap s'.heap → PLh s'.heap D us → Paired (LnS fun b o => s'.heap.get? b = some o) us tab → Q (.ref D) s') :
    wpAny (model PR w) A (call (.type "list") [.ref r]) Q E s := by
  refine kdx_call (knd := KD w) hh hv hm hn fun h' tk acc c as hk hS hl hG hacc => ?_
  refine k _ acc.toList _ ⟨_, _, rfl⟩ hk ⟨c, by simpa [lobj] using hS⟩ ?_
  rw [hacc]
  refine pairedOf (by rw [List.length_map]; exact hl.trans hp.length) fun j x q hx hq => ?_
  rw [List.getElem?_map] at hx
  obtain ⟨a, ha, rfl⟩ := Option.map_eq_some_iff.1 hx
  obtain ⟨key, k1, x, e1, e2, e3⟩ := hG.pairs j _ ha
  obtain ⟨q', hq', hk1, t, ht⟩ := pairedGet hp e1
  rw [hq] at hq'
  cases hq'
  simp only at hk1 ht
  subst hk1 ht
  obtain ⟨tk, rfl⟩ := strKey e2
  exact ⟨a, tk, t, rfl, _, e3, rfl, 0, rfl⟩
end Mine
end

section
set_option linter.unusedVariables false
set_option maxRecDepth 100000
set_option maxHeartbeats 2000000
namespace Mine
variable {w : World} {mg mb : Str → Option Value} {B : Heap} {A : Around} {E : Value → Shared → Prop} {s : Shared} {S : Addr → Obj → Prop} {l : List (Addr × Obj)} {m : Str → Option Value} {env : Env} {M : Model}
abbrev SL (h : Heap) (L : Addr) (b : Addr) (o : Obj) : Prop := (b ≠ 72 ∧ b ≠ L) ∧ h.get? b = some o
theorem St.rebase {L : Addr} {h : Heap} {ps : Array Value} (st : St w mg mb B S [] L m h) (hps : h.get? 72 = some (tabObj ps)) : St w mg mb B (SL h L) [(72, tabObj ps)] L m h :=
  ⟨st.W, st.ns, fun b o e => e.2, fun o e => e.1.2 rfl, fun b o e => ⟨⟨(fun q => by rw [q, st.W.n72] at e; cases e), fun q => st.off o (q ▸ st.sub b o e)⟩, st.base b o e⟩,
    fun q hq => by rw [List.mem_singleton.1 hq]; exact hps,
    fun q hq => by rw [List.mem_singleton.1 hq]; exact ⟨st.Ldiff (p := tabObj ps) (fun es n e => by cases e) hps, fun o e => e.1.1 rfl⟩, by simp⟩
theorem plSafe {L a : Addr} {h : Heap} {ps : Array Value} {us : List Value} (st : St w mg mb B S l L m h) (hps : h.get? 72 = some (tabObj ps)) (x : PLh h a us) : PL (SL h L) a us := by
  obtain ⟨n, e⟩ := x
  exact ⟨n, ⟨fun q => (by rw [q, hps] at e; cases e), st.Ldiff (fun es n e => by cases e) e⟩, e⟩
theorem tupSafe {L a : Addr} {h : Heap} {ps : Array Value} {us : List Value} (st : St w mg mb B S l L m h) (hps : h.get? 72 = some (tabObj ps)) (x : TupS (fun b o => h.get? b = some o) a us) : TupS (SL h L) a us := by
  obtain ⟨o, e, hc, n, hd⟩ := x
  refine ⟨o, ⟨⟨fun q => ?_, st.Ldiff (fun es n e => by rw [hd] at e; cases e) e⟩, e⟩, hc, n, hd⟩
  rw [q] at e
  have := Option.some.inj (e.symm.trans hps)
  subst this
  simp at hc
theorem bkSafe {L : Addr} {h : Heap} {ps : Array Value} {v : Value} {b : Bk} (st : St w mg mb B S l L m h) (hps : h.get? 72 = some (tabObj ps)) (x : BkS (fun b o => h.get? b = some o) v b) : BkS (SL h L) v b :=
  let ⟨t, p, vs, tl, tn, tc, e, h1, h2, h3⟩ := x; ⟨t, p, vs, tl, tn, tc, e, tupSafe st hps h1, plSafe st hps h2, h3⟩
theorem pairedComp {α β γ : Type} {F : α → γ → Prop} {G : α → β → Prop} {H : γ → β → Prop} {a : List α} {b : List β} {c : List γ} (h1 : Paired F a c) (h2 : Paired G a b) (h : ∀ x y z, F x z → G x y → H z y) : Paired H c b := by
  induction h1 generalizing b with
  | nil => cases h2; exact .nil
  | cons f _ ih => cases h2 with
    | cons g r => exact .cons (h _ _ _ f g) (ih r)
theorem pairedMap {α β γ : Type} {F : α → γ → Prop} {f : β → γ} {a : List α} {b : List β} (h : Paired (fun x y => F x (f y)) a b) : Paired F a (b.map f) := by
  induction h with
  | nil => exact .nil
  | cons h1 _ ih => exact .cons h1 ih
theorem tupSame {h : Heap} {t : Addr} {x y : List Value} (h1 : IsTup h t x.toArray) (h2 : IsTup h t y.toArray) : x = y := by
  obtain ⟨o, e, _, n, d⟩ := h1
  obtain ⟨o', e', _, n', d'⟩ := h2
  rw [e] at e'; cases e'
  rw [d] at d'; cases d'; rfl
theorem c_law {a : Addr} {vs : List Value} {ns : List Int} {Q : Value → Shared → Prop} (hA : OkA A 9) (W : Wd w mg mb B) (hB : Kp B s.heap) (hT : TabI s.heap) (hl : s.heap.IsList a vs.toArray) (hi : IntsAre vs ns) (hlen : ns.length ≤ 63)
    (k : ∀ s', s'.os = s.os → (AllBare s.gens → AllBare s'.gens) → KpT s.heap s'.heap → TabI s'.heap → Q (.bool true) s') :
    wpAny (model PR w) A (call (.ref 118) [.ref a]) Q E s := by
  obtain ⟨ps, hps, htr⟩ := hT
  refine callK (n := 8) hA W hB (by rfl) (by rfl) (by rfl) (by rfl) (BindsTo.of_eq rfl) (by decide) (locs rfl) ?_
  intro s₁ f₁ st₁ hA
  -- bookings
  have hl1 : s₁.heap.IsList a vs.toArray := hl.at fun o e => st₁.keep _ _ e
  refine wpAny_execs_cons (aName W (cDef st₁ (by rfl) (by rfl) (by rfl) (args_cons (eLoc st₁ rfl (args_nil ⟨st₁.base, c_bookings (hA.le (by decide)) W st₁.base hl1 hi hlen fun b us bs s₂ f₂ k₂ hP₂ hn hbs₂ hg => ?_⟩)))))
  have st₂' := st₁.keeps k₂
  have hps₂ := st₂'.keep _ _ hps
  have st₂ := st₂'.rebase hps₂
  have hP := plSafe st₂' hps₂ hP₂
  have hbs := Paired.mono (fun v b (x : BkS _ v b) => bkSafe st₂' hps₂ x) hbs₂
  have kp₂ : Kp s.heap s₂.heap := fun b o e => k₂ _ _ (st₁.keep _ _ e)
  have hoff : ∀ o, s.heap.get? s.heap.objs.size = some o → False := fun o e => absurd (Heap.lt_size e) (Nat.lt_irrefl _)
  have hin : ∀ b o, b ≠ 72 → s.heap.get? b = some o → SL s₂.heap s.heap.objs.size b o := fun b o hb e => ⟨⟨hb, fun q => hoff o (q ▸ e)⟩, kp₂ _ _ e⟩
  clear hbs₂ hP₂ st₂' k₂ kp₂
  have hul := hbs.length
  refine ⟨_, _, _, st₂, fun s₃ f₃ st₃ => ?_⟩
  refine wpAny_execs_cons (wpAny_For (eLoc st₃ rfl (iterList hA.hh st₃ (hP.at st₃).isList fun I o s₄ f₄ hI hneI st₄ Wk hst hfp k₄ => ?_)))
  refine loop4c hA.hh hP.listS (bkG hbs hg)
    (fun i S' l' m' s' => Fro s s' ∧ l' = [(72, tabObj ps)] ∧ m' "bookings" = some (.ref b))
    (fun i S l m s s' f h => ⟨h.1.trans f, h.2⟩) st₄ hst.1 ⟨f₁.trans (f₂.trans (f₃.trans f₄)), rfl, rfl⟩ ?_ ?_
  · rintro i v1 v2 v3 v4 S' l' m' o' s₅ hi ⟨bk, p, pv, tl, tn, tc, hbk, hgb, rfl, hpl, hpv, rfl, rfl, rfl⟩ hS ⟨hf, rfl, hmb⟩ hcls st₅
    obtain ⟨ll, hl1, hl2⟩ := strsOf hpv
    have hpj := path_join hgb
    have hbase := base_path hgb
    obtain ⟨lx, tlx, hx1, hx2⟩ := strsLast hpv hgb.ne
    have hlx : lx = lastP bk := Option.some.inj (hx1.symm.trans (lastP_mem hgb).1)
    subst hlx
    refine wpAny_execs_cons (wpAny_If (wpAny_isTrue_Compare1 (cDef st₅ (by rfl) (by rfl) (by rfl) (args_cons (Tuple_ ?_)))))
    refine args_cons (Call_method1 (by rfl) (by rfl) (by rfl) (wpAny_Constant_str (SB.join (eLoc (s := { s₅ with toks := s₅.toks + 1 }) st₅ (v := .ref p) (by rfl) ⟨p, ll, rfl, ?_, bk.path, hl2, hpj.1, fun t₁ k₁ => ?_⟩))))
    · rw [hl1]; exact ((hpl.mono hS).at st₅).isList
    · refine args_cons (eLoc (s := { s₅ with toks := k₁ }) st₅ rfl (args_cons (eLoc (s := { s₅ with toks := k₁ }) st₅ rfl (args_nil (mkTupP (s := { s₅ with toks := k₁ }) st₅ fun t₂ S₆ s₆ f₆ hS₆ hT₆ st₆ k₆ => ?_)))))
      refine args_nil ⟨st₆.base, c_strip (hA.le (by decide)) W st₆.base hpj.2 (hT₆.at st₆) fun c t₃ s₇ f₇ k₇ hc => ?_⟩
      rw [hbase] at hc
      have st₇ := st₆.keeps k₇
      refine Tuple_ (args_cons (eLast st₇ (by rfl) ((hpl.mono fun b o e => hS₆ _ _ (hS _ _ e)).at st₇) hx2 fun tk => ?_))
      refine args_cons (eLoc (s := { s₇ with toks := tk }) st₇ rfl (args_cons (eLoc (s := { s₇ with toks := tk }) st₇ rfl (args_nil (mkTupP (s := { s₇ with toks := tk }) st₇ fun t₄ S₈ s₈ f₈ hS₈ hT₈ st₈ k₈ => ?_)))))
      refine neTup (hc.keeps k₈) (hT₈.at st₈) (by have := hA.u; omega) (wpAny_truthy_bool (wpAny_execs_nil (wpAny_execs_nil ?_)))
      exact ⟨S₈, _, _, fun b o e => hS₈ _ _ (hS₆ _ _ e), st₈, hf.trans (Fro.trans (Fro.mk' (s := s₅) s₅.heap k₁) (f₆.trans (f₇.trans (Fro.trans (Fro.mk' (s := s₇) s₇.heap tk) f₈)))), rfl, hmb⟩
  · rintro S' l' m' s₅ hS ⟨hf, rfl, hmb⟩ st₅
    -- table
    refine wpAny_execs_cons (aName W (cDef st₅ (by rfl) (by rfl) (by rfl) (args_cons (eLoc st₅ hmb (args_nil ⟨st₅.base, ?_⟩)))))
    refine c_booked hA W st₅.base ⟨ps, st₅.at0, htr⟩ ((hP.mono hS).at st₅) (Paired.mono (fun v b (h : BkS _ v b) => h.mono fun b o e => ⟨e.1.1, st₅.keep _ _ (hS _ _ e)⟩) hbs) hg hn fun d s₆ hos hgen hkT hT₆ hdS hdn htab => ?_
    obtain ⟨ps₂, h72, htr₂⟩ := hT₆
    have st₆' := st₅.mut0 h72 (fun b o hb e => hkT b o hb e)
    obtain ⟨S₆, hS₆, hT₆, st₆⟩ := st₆'.adoptTab htab (fun e => by obtain ⟨oL, _, _, h1, _⟩ := st₅.ns; rw [← e, hdn] at h1; cases h1) (fun q hq e => by rw [List.mem_singleton.1 hq] at e; have := st₅.at0; rw [show (72 : Addr) = d from e, hdn] at this; cases this)
    refine ⟨_, _, _, st₆, fun s₇ f₇ st₇ => ?_⟩
    have hmb₇ : upd m' "table" (.ref d) "bookings" = some (.ref b) := hmb
    have hS₆' : ∀ b o, SL s₂.heap s.heap.objs.size b o → S₆ b o := fun b o e => hS₆ _ _ (hS _ _ e)
    -- list(table.items()) != _law_lines(bookings)
    obtain ⟨kvs, hkv, hpk⟩ := hT₆.at st₇
    have hkl : kvs.length ≤ 13 := by have := linesB_len bs; have := hpk.length; omega
    refine wpAny_execs_cons (wpAny_If (wpAny_isTrue_Compare1 (Call_ (eBlt st₇ (v := .type "list") (by rfl) (by rfl) (by decide) (PyProof.Rows.callWith_type1 (args_cons ?_))))))
    refine eItems (by rfl) (by rfl) (eLoc st₇ rfl ⟨d, kvs, rfl, hdS, hkv, args_nil ?_⟩)
    have st₈ := st₇.pushN { cls := .type "dict_items", data := .fields #[.ref d] }
    obtain ⟨ep, hdS'⟩ := DictS.of hkv (S := fun b o => s₇.heap.get? b = some o) fun _ _ e => e
    have hda : (s₇.heap.push { cls := .type "dict_items", data := .fields #[.ref d] }).DictAt (KD w) d kvs ep := let ⟨o, e, es, r⟩ := hdS'; ⟨o, es, Heap.get?_push_of_some _ e, r⟩
    refine listItems hA.hh ⟨_, Heap.get?_push_size _ rfl, rfl, rfl⟩ hda hpk (by rw [sizeLine_eq]; omega) fun D us₂ s₉ f₉ k₉ hD hDl => ?_
    have st₉ := st₈.keeps k₉
    refine cDef st₉ (by rfl) (by rfl) (by rfl) (args_cons (eLoc st₉ hmb₇ (args_nil ⟨st₉.base, ?_⟩)))
    refine c_lines (hA.le (by decide)) W st₉.base ((hP.mono hS₆').at st₉) (Paired.mono (fun v b (h : BkS _ v b) => h.mono fun b o e => st₉.keep _ _ (hS₆' _ _ e)) hbs) hg hn fun e ls s₁₀ f₁₀ k₁₀ hE hEl => ?_
    have st₁₀ := st₉.keeps k₁₀
    refine neList (hD.keeps k₁₀) hE (Paired.mono (fun v b (h : LnS _ v b) => h.mono k₁₀) hDl) hEl (by have := hA.u; omega) (wpAny_truthy_bool (wpAny_execs_nil ?_))
    -- the sums
    have htab₁₀ : TabOf w s₁₀.heap d (linesB bs) := hT₆.at st₁₀
    refine wpAny_execs_cons (wpAny_Return_some (wpAny_Compare1 (cDef st₁₀ (by rfl) (by rfl) (by rfl) (args_cons (eLoc st₁₀ rfl (args_nil ⟨st₁₀.base, c_count (hA.le (by decide)) W st₁₀.base hdS htab₁₀ fun t₁ s₁₁ f₁₁ k₁₁ => ?_⟩))))))
    have st₁₁ := st₁₀.keeps k₁₁
    have hP₁₁ := (hP.mono hS₆').at st₁₁
    refine Call_ (eBlt st₁₁ (v := .builtin "sum") (by rfl) (by rfl) (by decide) (PyProof.Rows.callWith_builtin1 (args_cons ?_)))
    refine eComp [] (fun _ => true) (fun v y => ∃ t v1 v2 v3, v = .ref t ∧ IsTup s₁₁.heap t [v1, v2, v3, y].toArray) (by rfl) (by decide) (by decide) (by decide) (eLoc st₁₁ hmb₇ (iterList hA.hh st₁₁ hP₁₁.isList fun I₂ o₂ s₁₂ f₁₂ hI₂ hneI₂ st₁₂ Wk₂ hst₂ hfp₂ k₁₂ =>
      ⟨I₂, _, _, _, _, _, _, _, _, rfl, Wk₂, (by rw [sizeLine_eq]; omega), hst₂, hfp₂, st₁₂, ⟨?_, ?_⟩, fun D₂ ys vs' S₁₃ s₁₃ hvn hvP hF f₁₃ hS₁₃ hP₁₃ st₁₃ => ?_⟩))
    · exact fun C i v s₃ m₃ E' hP hm st => wpAny_tests_nil ⟨rfl, keepsOf (Fro.refl _) fun _ _ e => e⟩
    · intro C i v s₃ m₃ E' hPv _ hm stX
      obtain ⟨bk, hbk, t, p, pv, tl, tn, tc, rfl, hTt, _, _⟩ := pairedGet hbs hPv
      have hT₁₁ := (hTt.mono hS₆').at st₁₁
      have hTX : IsTup s₃.heap t [.ref p, .int bk.line tl, .str bk.name tn, .int bk.count tc].toArray := by
        obtain ⟨o, e, r⟩ := hT₁₁
        refine ⟨o, stX.keep t o ⟨fun q => ?_, k₁₂ _ _ e⟩, r⟩
        have hlt := Heap.lt_size e
        rw [q, ← hI₂] at hlt
        exact Nat.lt_irrefl _ hlt
      exact Subscript_ (eLoc stX hm (wpAny_Constant_int (item_tupleT (s := { s₃ with toks := s₃.toks + 1 }) (l := [.ref p, .int bk.line tl, .str bk.name tn, .int bk.count tc]) hTX (by decide) (by decide) (by rfl) (by rfl) ⟨⟨t, _, _, _, rfl, hT₁₁⟩, keepsOf ⟨_, _, rfl⟩ fun _ _ e => e⟩)))
    · rw [sameItems hvn hvP, List.filter_eq_self.2 (fun _ _ => rfl)] at hF
      have hcs : Paired (fun (v : Value) (c : Int) => ∃ t, v = .int c t) ys (bs.map (·.count)) := by
        refine pairedMap (pairedComp hF hbs fun v bk y hFy hB => ?_)
        obtain ⟨t, v1, v2, v3, rfl, hy⟩ := hFy
        obtain ⟨t', p, pv, tl, tn, tc, e, hTt, _, _⟩ := hB
        cases e
        have := tupSame hy ((hTt.mono hS₆').at st₁₁)
        cases this
        exact ⟨tc, rfl⟩
      refine args_nil (sumList hA.hh (hP₁₃.at st₁₃) hcs fun t₂ s₁₄ f₁₄ k₁₄ => eq_int ?_)
      rw [sum_lines, beq_self_eq_true]
      have st₁₄ := st₁₃.keeps k₁₄
      have hF2 : Fro s₆ s₁₄ := f₇.trans (Fro.trans (Fro.mk' (s := s₇) _ _) (Fro.trans f₉ (f₁₀.trans (f₁₁.trans (f₁₂.trans (f₁₃.trans f₁₄))))))
      refine k _ ?_ ?_ (fun b o hb e => st₁₄.keep _ _ (hS₁₃ _ _ (hS₆' _ _ (hin b o hb e)))) ⟨ps₂, st₁₄.at0, htr₂⟩
      · obtain ⟨h1, t1, rfl⟩ := hF2
        obtain ⟨h2, t2, rfl⟩ := hf
        exact hos
      · intro hG
        obtain ⟨h1, t1, rfl⟩ := hF2
        obtain ⟨h2, t2, rfl⟩ := hf
        exact hgen hG
end Mine
end

section
set_option linter.unusedVariables false
set_option maxRecDepth 100000
set_option maxHeartbeats 8000000
namespace Mine
theorem wdOf {w : World} {q : Program} {loose : List Str} {mean : ExcName → Option Value} {mg mb : Str → Option Value} {h : Heap} (T : Top q loose mean mg mb h) (X : (KK w).In h) (hC : CodeHd h 76 72) (h72 : h.get? 72 = some (tabObj #[])) : Wd w mg mb (ghostOf h [(76, 72)]) := by
  have hT : TabsAt [(76, 72)] h := fun q hq => by rw [List.mem_singleton.1 hq]; exact ⟨hC, h72⟩
  refine ⟨ghost_K hT X (by rfl), ⟨ghost_ns hT T.g, ghost_ns hT T.b, let ⟨mc, a, r⟩ := T.nolimit; ⟨mc, ghost_ns hT a, r⟩, T.builtins⟩, ?_, hideAll_none _ (by simp), (ghost_code hT).1⟩
  obtain ⟨bm, ob, a1, a2, a3, a4, a5, a6⟩ := T.bmain
  exact ⟨bm, ob, ghost_ns hT T.g, a1, a2, ghost_get hT a3 (fun q => by rw [q] at a4; cases a4), a4, a5, a6⟩
theorem holds : PySem.Challenge.rw_mj0082_01.Holds := by
  refine hd ?_
  intro w s₀ s₁ mg mb G Y fa o pm cd doc dV kV ho hdat hcd hD hmg hg args vals as hpre hlay hrd hwl hlo
  have KX := kIn_of Y
  refine Ground.open G ?_
  intro T B D TE TW
  have hTab := tab_of (K := KK w) (x := "_platform") (c := 76) (P := 72) T KX (by rfl) (by rfl)
  have hfa : mg "law" = some (.ref 118) := mg_of (K := KK w) KX T.g (by rfl)
  have hfe : fa = 118 := by have := hmg.symm.trans hfa; injection this with this; injection this
  subst hfe
  clear D TE TW B ho hdat hcd hD hmg hfa Y
  wrow_args hpre hlay hrd hwl hlo
  rename IntsAre _ _ => hI
  rename Heap.IsList _ _ _ => hL
  rename ¬ _ < _ => hc
  have W := wdOf T KX hTab.1 hTab.2
  have hA : OkA callerA 9 := ⟨rfl, by decide, by decide⟩
  refine c_law hA W (fun b o e => of_hideAll _ e) ⟨#[], hTab.2, trivial⟩ hL hI (by have hc' := Int.not_lt.1 hc; omega) fun s' hos hgen hk hT => ?_
  obtain ⟨ps, h72, _⟩ := hT
  refine ⟨.inl ⟨.bool true, .bool true, [], rfl, fun _ => rfl, .bool _, ?_, fun _ => ⟨List.nodup_nil, fun a ha => absurd ha List.not_mem_nil⟩⟩, ⟨fun b o e => ?_, fun b o e => ?_⟩, hos, hgen (.of_eq hg)⟩
  · first | with_unfolding_all rfl | kernel_rfl | (simp [RowW.claim, OpenLaw.row, WShape.has]; trace_state; done)
  · by_cases hb : b = 72
    · subst hb
      have e2 := e.symm.trans hTab.2
      cases e2
      exact .inr (.inl ⟨(hTab.1.tab hTab.2).isCodeTable, rfl, #[], ps, rfl, by rw [Array.empty_append]; exact h72⟩)
    · exact .inl (hk b o hb e)
  · by_cases hb : b = 72
    · subst hb; exact ⟨_, h72⟩
    · exact ⟨o, hk b o hb e⟩
end Mine
end

set_option maxRecDepth 100000 in
set_option maxHeartbeats 8000000 in
theorem PySem.Challenge.cw_mj0082_01_holds : PySem.Challenge.rw_mj0082_01.Holds := by
  exact Mine.holds
