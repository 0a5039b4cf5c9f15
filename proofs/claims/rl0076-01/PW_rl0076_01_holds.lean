import PyProof.Rows.All
import Wide.All
import OpenK.AllK
import Wide.FinOn
import PySem.Challenge.RW_rl0076_01
set_option Elab.async false

section
open PySem PySem.W PyProof.Rows
set_option maxRecDepth 100000
set_option maxHeartbeats 8000000
namespace Mine.Internal
local macro_rules | `(tactic| k_head) => `(tactic| z_head)
open_top hd for PySem.Challenge.rw_rl0076_01
theorem fl_keep {f : Nat × Obj → Bool} {p : Nat × Obj} {l k : Frag} (h : l.filter f = k) (e : f p = true) : (p :: l).filter f = p :: k := by rw [List.filter_cons_of_pos e, h]
theorem fl_skip {f : Nat × Obj → Bool} {p : Nat × Obj} {l k : Frag} (h : l.filter f = k) (e : f p = false) : (p :: l).filter f = k := by rw [List.filter_cons_of_neg (by rw [e]; decide), h]
noncomputable abbrev still (p : Nat × Obj) : Bool := p.1 != 140 && p.1 != 147
noncomputable def KK : Params → Frag := fun P => (fun (K : Frag) (_ : (hd.heap_261 P).filter still = K) => K) _ (by
  delta hd.heap_261
  repeat first | refine' fl_keep ?_ (by rfl) | refine' fl_skip ?_ (by rfl)
  exact List.filter_nil)
theorem KK_eq (P : Params) : KK P = (hd.heap_261 P).filter still := by kernel_rfl
theorem seenKK : PySem.Challenge.rw_rl0076_01.most = PySem.Challenge.rw_rl0076_01.most ∧ KK = KK := by
  k_fill
  exact ⟨rfl, rfl⟩
end Mine.Internal
end
local macro_rules | `(tactic| omega) => `(tactic| lia)

section
open PySem PySem.W PyProof.Rows PySem.Calls
set_option maxRecDepth 100000
set_option maxHeartbeats 4000000
namespace Mine.Internal

noncomputable abbrev Pg : Program := PySem.Challenge.pw_rl0076_01
noncomputable abbrev Kf (w : World) : Frag := KK w.params

noncomputable def Fa (a : Nat) : Prop := a = 140 ∨ a = 147 ∨ 240 ≤ a

theorem keys_lt (w : World) : ∀ a : Nat, a ∈ (Kf w).map (·.1) → a < 240 ∧ a ≠ 140 ∧ a ≠ 147 := by
  have e : ((Kf w).map (·.1)).all (fun a => decide (a < 240) && decide (a ≠ 140) && decide (a ≠ 147)) = true := by kernel_rfl
  intro a ha
  have := List.all_eq_true.mp e a ha
  simp only [Bool.and_eq_true, decide_eq_true_eq] at this
  exact ⟨this.1.1, this.1.2, this.2⟩

theorem lookup_mem {K : Frag} {a : Addr} {o : Obj} (h : K.lookup a = some o) : a ∈ K.map (·.1) := by
  induction K with
  | nil => cases h
  | cons p r ih =>
    obtain ⟨b, x⟩ := p
    by_cases e : (a == b) = true
    · rw [beq_iff_eq.mp e]; exact List.mem_cons_self ..
    · have e' : (a == b) = false := by simpa using e
      rw [List.lookup_cons, e'] at h
      exact List.mem_cons_of_mem _ (ih h)

theorem not_fa {w : World} {a : Nat} {o : Obj} (h : (Kf w).lookup a = some o) : ¬ Fa a := by
  have := keys_lt w a (lookup_mem h)
  unfold Fa
  omega

structure Step (W : List Addr) (h h' : Heap) : Prop where
  keep : ∀ b o, b ∉ W → h.get? b = some o → h'.get? b = some o

theorem Step.refl (h : Heap) : Step [] h h := ⟨fun _ _ _ e => e⟩
theorem Step.trans {W : List Addr} {h h' h'' : Heap} (a : Step W h h') (b : Step W h' h'') : Step W h h'' :=
  ⟨fun x o hx e => b.keep x o hx (a.keep x o hx e)⟩
theorem Step.mono {W W' : List Addr} {h h' : Heap} (a : Step W h h') (hs : ∀ x ∈ W, x ∈ W') : Step W' h h' :=
  ⟨fun x o hx e => a.keep x o (fun q => hx (hs x q)) e⟩

structure Gr (w : World) (h : Heap) : Prop where
  X : (Kf w).In h
  B : ∃ mb, h.Ns builtinsNs mb ∧ ∀ x : Str, x ≠ "__name__" → mb x = bootBuiltins x
  M : ∃ ob, h.get? 4 = some ob ∧ ob.cls = .type "module" ∧ ob.dict = some builtinsNs ∧ ob.data = .plain

theorem Gr.keeps {w : World} {h h' : Heap} (g : Gr w h) (k : ∀ b o, ¬ Fa b → h.get? b = some o → h'.get? b = some o) : Gr w h' := by
  refine ⟨fun a o e => k a o (not_fa e) (g.X a o e), ?_, let ⟨ob, e, r⟩ := g.M; ⟨ob, k 4 ob (by unfold Fa; decide) e, r⟩⟩
  obtain ⟨mb, hn, hb⟩ := g.B
  obtain ⟨o, es, ep, e, r⟩ := hn
  exact ⟨mb, ⟨o, es, ep, k _ _ (by unfold Fa builtinsNs; decide) e, r⟩, hb⟩

theorem Gr.step {w : World} {W : List Addr} {h h' : Heap} (g : Gr w h) (st : Step W h h') (hW : ∀ a ∈ W, Fa a) : Gr w h' :=
  g.keeps fun b o hb e => st.keep b o (fun q => hb (hW b q)) e

noncomputable def emptyDictQ (d : Data) : Bool := match d with | .dict es _ => es.size == 0 | _ => false
theorem emptyDict_ex {d : Data} (h : emptyDictQ d = true) : ∃ n, d = .dict #[] n := by
  cases d with
  | dict es n => exact ⟨n, congrArg (Data.dict · n) (Array.eq_empty_of_size_eq_zero (beq_iff_eq.mp h))⟩
  | _ => exact (Bool.false_ne_true h).elim
theorem Gr.nolimit {w : World} {h : Heap} (g : Gr w h) : h.NoLimit := by
  have e : ((Kf w).lookup 2).map (fun o => emptyDictQ o.data) = some true := by kernel_rfl
  obtain ⟨o, ho, hq⟩ := Option.map_eq_some_iff.mp e
  obtain ⟨n, hd⟩ := emptyDict_ex hq
  exact ⟨fun _ => none, ⟨o, #[], n, g.X _ _ ho, hd, (by intro e he; simp at he), fun _ => rfl⟩, rfl⟩
theorem Gr.size {w : World} {h : Heap} (g : Gr w h) : 240 ≤ h.objs.size := by
  have e : ((Kf w).lookup 239).isSome = true := by kernel_rfl
  obtain ⟨o, ho⟩ := Option.isSome_iff_exists.mp e
  exact Heap.lt_size (g.X _ _ ho)
theorem Gr.fa {w : World} {h : Heap} (g : Gr w h) : Fa h.objs.size := .inr (.inr g.size)
end Mine.Internal
end

section
open PySem PySem.W PyProof.Rows PySem.Calls
set_option maxRecDepth 100000
set_option maxHeartbeats 4000000
namespace Mine.Internal

theorem gen {M : Model} {α : Type} {A : Around} {m : Sem α} {Q : α → Shared → Prop} {E : Value → Shared → Prop} {s : Shared}
    (h : ∀ (T : α → Shared → Prop) (E' : Value → Shared → Prop), (∀ a s', Q a s' → T a s') → wpAny M A m T E' s) : wpAny M A m Q E s := h Q E (fun _ _ z => z)
theorem nilT {P : Addr → Prop} : ∀ x ∈ ([] : List Addr), P x := fun _ h => nomatch h
theorem nil1 {a : Addr} : a ∉ ([] : List Addr) := fun h => nomatch h
theorem one1 {a b : Addr} (h : a ≠ b) : a ∉ [b] := fun z => h (List.mem_singleton.mp z)
theorem nat_abs {a c : Nat} (h : a ≤ c) (hc : c < 1073741824) : ((a : Nat) : Int).natAbs < 1073741824 := by rw [Int.natAbs_natCast]; exact Nat.lt_of_le_of_lt h hc
theorem om_lt {a b c : Nat} (h : a + c < b) : a < b := Nat.lt_of_le_of_lt (Nat.le_add_right a c) h
theorem om_ltd {a b c d : Nat} (h : a + d < b) (hc : c ≤ d) : a + c < b := Nat.lt_of_le_of_lt (Nat.add_le_add_left hc a) h
theorem om_lle {a b n c : Nat} (h : a = b) (hb : b ≤ n) (hn : n ≤ c) : a ≤ c := h ▸ Nat.le_trans hb hn
theorem om_at {a b k : Nat} (h : a = b) (hk : k < b) : k < a := h ▸ hk
theorem om_eqn {n k : Nat} (h : k ≤ n) (h2 : ¬ k < n) : k = n := Nat.le_antisymm h (Nat.not_lt.mp h2)
theorem in1 {α : Type} {P : α → Prop} {a : α} (h : P a) : ∀ x ∈ [a], P x := fun _ hx => (List.mem_singleton.mp hx).symm ▸ h
theorem inC {α : Type} {P : α → Prop} {a : α} {l : List α} (h : P a) (r : ∀ x ∈ l, P x) : ∀ x ∈ a :: l, P x := fun _ hx => (List.mem_cons.mp hx).elim (fun e => e.symm ▸ h) (r _)
theorem in2 {α : Type} {P : α → Prop} {a b : α} (h1 : P a) (h2 : P b) : ∀ x ∈ [a, b], P x := inC h1 (in1 h2)
theorem in3 {α : Type} {P : α → Prop} {a b c : α} (h1 : P a) (h2 : P b) (h3 : P c) : ∀ x ∈ [a, b, c], P x := inC h1 (in2 h2 h3)
theorem in4 {α : Type} {P : α → Prop} {a b c d : α} (h1 : P a) (h2 : P b) (h3 : P c) (h4 : P d) : ∀ x ∈ [a, b, c, d], P x := inC h1 (in3 h2 h3 h4)
theorem in5 {α : Type} {P : α → Prop} {a b c d e : α} (h1 : P a) (h2 : P b) (h3 : P c) (h4 : P d) (h5 : P e) : ∀ x ∈ [a, b, c, d, e], P x := inC h1 (in4 h2 h3 h4 h5)
theorem or3 {α : Type} {P : α → Prop} {a b c : α} (h1 : P a) (h2 : P b) (h3 : P c) : ∀ x, (x = a ∨ x = b ∨ x = c) → P x := fun _ h => h.elim (fun e => e.symm ▸ h1) fun h => h.elim (fun e => e.symm ▸ h2) fun e => e.symm ▸ h3
theorem ni2 {α : Type} {b x d : α} (h : b ∉ [x, d]) : b ≠ x ∧ b ≠ d := ⟨fun e => h (e ▸ .head _), fun e => h (e ▸ .tail _ (.head _))⟩
theorem nin2 {a b c : Addr} (h1 : a ≠ b) (h2 : a ≠ c) : a ∉ [b, c] := fun z => (List.mem_cons.mp z).elim h1 fun z => h2 (List.mem_singleton.mp z)
theorem nin3 {a b c d : Addr} (h1 : a ≠ b) (h2 : a ≠ c) (h3 : a ≠ d) : a ∉ [b, c, d] := fun z => (List.mem_cons.mp z).elim h1 (nin2 h2 h3)
theorem dead1 (h : Heap) : h.get? (h.objs.size + 1) = none := by
  cases q : h.get? (h.objs.size + 1) with
  | none => rfl
  | some o => exact absurd (Heap.lt_size q) (Nat.not_lt.mpr (Nat.le_succ _))
theorem deadOf {h h' : Heap} {b : Addr} (k : ∀ o, h.get? b = some o → h'.get? b = some o) (q : h'.get? b = none) : h.get? b = none := by
  cases z : h.get? b with
  | none => rfl
  | some o => rw [k o z] at q; cases q

noncomputable def mp (l : List (Str × Value)) : Str → Option Value := fun x => l.lookup x
theorem mp_set (l : List (Str × Value)) (x : Str) (v : Value) : (fun y => if y = x then some v else mp l y) = mp ((x, v) :: l) := by
  funext y
  unfold mp
  rw [List.lookup_cons]
  by_cases e : y = x
  · subst e; simp
  · have : (y == x) = false := by simpa using e
    rw [this]; simp [e]

structure En (env : Env) (L : Addr) (ks : List (Str × NameKind)) : Prop where
  kind : env.scope.kind = .function
  loc : env.locals = L
  kinds : ∀ x, env.kindOf x = ks.lookup x
  glob : env.globals = mainGlobals
  bi : env.builtins = builtinsNs

theorem En.plain {env : Env} {L : Addr} {ks : List (Str × NameKind)} (e : En env L ks) : (env.scope.kind == .class || (env.scope.kind == .module && env.locals != env.globals)) = false := by
  rw [e.kind]; rfl
theorem En.inter {env : Env} {L : Addr} {ks : List (Str × NameKind)} (e : En env L ks) : interactive env = false := by
  unfold interactive; rw [e.kind]; rfl

section
variable {M : Model} {A : Around} {E : Value → Shared → Prop} {s : Shared} {env : Env} {L : Addr} {ks : List (Str × NameKind)} {w : World} {h₀ : Heap} {l : List (Str × Value)} {news : List (Addr × Obj)}

theorem rLoc {x : Str} {pos : Pos} {v : Value} {Q : Value → Shared → Prop} (e : En env L ks) (F : Fr h₀ L s.heap (mp l)) (hv : l.lookup x = some v) (h : Q v s)
    (hl : ks.lookup x = some .local := by kernel_rfl) (hd : (x == ("__debug__" : Str)) = false := by kernel_rfl) : wpAny M A (eval (.Name x pos) env) Q E s :=
  wpAny_Name (wpAny_loadName_local e.kind ((e.kinds x).trans hl) (e.loc ▸ F.ns) hv h) hd

theorem rGlob {x : Str} {pos : Pos} {v : Value} {Q : Value → Shared → Prop} (e : En env L ks) (g : Gr w s.heap) (hv : nsIn (Kf w) mainGlobals x = some (some v)) (h : Q v s)
    (hl : ks.lookup x = some .globalImplicit := by kernel_rfl) (hd : (x == ("__debug__" : Str)) = false := by kernel_rfl) : wpAny M A (eval (.Name x pos) env) Q E s := by
  refine Name_function_global e.kind ((e.kinds x).trans hl) ?_ hd
  unfold loadGlobal
  rw [e.glob]
  exact wpAny_bind ((looks_nsIn g.X hv).here (wpAny_pure h))

theorem rBui {x : Str} {pos : Pos} {v : Value} {Q : Value → Shared → Prop} (e : En env L ks) (g : Gr w s.heap) (hb : bootBuiltins x = some v) (h : Q v s) (hn : nsIn (Kf w) mainGlobals x = some none := by kernel_rfl)
    (hl : ks.lookup x = some .globalImplicit := by kernel_rfl) (hd : (x == ("__debug__" : Str)) = false := by kernel_rfl) (hx : x ≠ "__name__" := by decide) : wpAny M A (eval (.Name x pos) env) Q E s := by
  refine Name_function_global e.kind ((e.kinds x).trans hl) ?_ hd
  obtain ⟨mb, hns, hmb⟩ := g.B
  unfold loadGlobal
  rw [e.glob, e.bi]
  refine wpAny_bind ((looks_nsIn g.X hn).here (wpAny_bind (wpAny_nsGet hns ?_)))
  rw [hmb x hx, hb]
  exact wpAny_pure h

theorem rSto {x : Str} {v : Value} {Q : Unit → Shared → Prop} (e : En env L ks) (F : Fr h₀ L s.heap (mp l)) (N : News h₀ L s.heap news)
    (h : ∀ h', Fr h₀ L h' (mp ((x, v) :: l)) → News h₀ L h' news → Q () { s with heap := h', toks := s.toks + 1 }) (hl : ks.lookup x = some .local := by kernel_rfl) : wpAny M A (storeName env x v) Q E s := by
  obtain rfl := e.loc
  refine wpAny_storeName_local ((e.kinds x).trans hl) F.ns (fun h' hn hs => ?_) e.plain
  rw [mp_set] at hn
  exact h h' (F.set hn hs) (N.set hs)
end

theorem enter {w : World} {A : Around} {R : Result → Shared → Prop} {s : Shared} {f : Addr} {o : Obj} {fd : FuncData} {body : List Stmt} {args : Args} {binds : List (Str × Value)} (mu : List (Addr × Obj))
    (g : Gr w s.heap) (hm : ∀ p ∈ mu, s.heap.get? p.1 = some p.2 ∧ Fa p.1) (hroom : A.depth < recursionLimit)
    (ho : (KK w.params).lookup f = some o) (hdata : o.data = .func fd) (hbody : fd.body = .stmts body) (hcd : codeIn (Kf w) fd.code fd.qualname = true) (hbind : BindsTo s fd args binds)
    (hcell : (fd.scope.names.all fun x => x.2 != .cell) = true) (hloc : (binds.all fun x => fd.scope.names.lookup x.1 == some .local) = true)
    (hco : fd.scope.isCoroutine = false) (hgen : fd.scope.isGenerator = false) (hk : fd.scope.kind = .function) (hgl : fd.globals = mainGlobals) (hbi : fd.builtins = builtinsNs)
    (h : ∀ h₀ L h₁ env, env = callEnv fd L f → En env L fd.scope.names → Fr h₀ L h₁ (mp binds.reverse) → News h₀ L h₁ mu → Gr w h₀ → (∀ b o, b ∉ mu.map (·.1) → s.heap.get? b = some o → h₀.get? b = some o) →
      (∀ b o, h₀.get? b = some o → s.heap.get? b = some o) → L = s.heap.objs.size →
      wpAny (model Pg w) (A.deeper env) (execs body env) (fun fl s' => R (.ok (.ret (match fl with | .ret v => v | _ => .none))) s') (fun _ _ => False) { s with heap := h₁, toks := s.toks + binds.length }) :
    codeAny (model Pg w) A (.call (.ref f) args) R s := by
  refine codeAny_call_def (fd := fd) (body := body) (binds := binds) hroom (g.X _ _ ho) hdata g.nolimit (codeRec_of g.X hcd) hbody hbind (fun x hx => ?_) (fun x hx => ?_) (fun h₁ hns hk₁ => ?_) hco hgen hk
  · have := List.all_eq_true.mp hcell x hx
    simpa using this
  · have := List.all_eq_true.mp hloc x hx
    simpa using this
  · have nm : ∀ b o, b ∉ mu.map (·.1) → s.heap.get? b = some o → (hideAll s.heap (mu.map (·.1))).get? b = some o := fun b o hb e => hideAll_get _ e hb
    have gg : Gr w (hideAll s.heap (mu.map (·.1))) := g.keeps fun b o hb e => nm b o (fun q => by
      obtain ⟨p, hp, rfl⟩ := List.mem_map.mp q
      exact hb (hm p hp).2) e
    refine wpAny_mono (h _ _ h₁ _ rfl ⟨hk, rfl, fun _ => rfl, hgl, hbi⟩ ⟨hns, fun b o e => hk₁ b o (of_hideAll _ e), Nat.le_of_eq (hideAll_size _ _)⟩
      (fun p hp => ⟨hk₁ _ _ (hm p hp).1, Nat.ne_of_lt (Heap.lt_size (hm p hp).1), hideAll_none _ (List.mem_map_of_mem hp)⟩) gg nm (fun b o e => of_hideAll _ e) rfl) (fun _ _ z => z) fun _ _ z => z.elim
end Mine.Internal
end

section
open PySem PySem.W PyProof.Rows PySem.Calls
set_option maxRecDepth 100000
set_option maxHeartbeats 4000000
namespace Mine.Internal
section
variable {prog : Program} {w : World} {A : Around} {s : Shared}
structure FT (prog : Program) (w : World) (A : Around) (I : Nat → Shared → Prop) (R : Result → Shared → Prop) (target : Expr) (body orelse : List Stmt) (env : Env) (n : Nat) (E1 : Value → Shared → Prop) (Tn : Option Value → Shared → Prop) (Tm : Flow → Shared → Prop) : Prop where
  next : ∀ m s', m < n → I m s' → Tm .next s'
  brk : ∀ s', R (.ok .next) s' → Tm .brk s'
  ret : ∀ v s', R (.ok (.ret v)) s' → Tm (.ret v) s'
  none : ∀ s₁, wpAny (model prog w) A (execs orelse env) (fun f s₃ => R (.ok f) s₃) E1 s₁ → Tn none s₁
  some : ∀ v s₁, wpAny (model prog w) A (assign target env v) (fun _ s₂ => wpAny (model prog w) A (execs body env) Tm E1 s₂) E1 s₁ → Tn (some v) s₁
  cont : ∀ m s', m < n → I m s' → Tm .cont s'
structure FL (prog : Program) (w : World) (A : Around) (I : Nat → Shared → Prop) (R : Result → Shared → Prop) (target : Expr) (it : Value) (body orelse : List Stmt) (env : Env) (n : Nat) (E1 : Value → Shared → Prop) (Tn : Option Value → Shared → Prop) (Tm : Flow → Shared → Prop) : Prop where
  next : ∀ m s', m < n → I m s' → Tm .next s'
  brk : ∀ s', R (.ok .next) s' → Tm .brk s'
  ret : ∀ v s', R (.ok (.ret v)) s' → Tm (.ret v) s'
  none : ∀ s₁, wpAny (model prog w) A (execs orelse env) (fun f s₃ => R (.ok f) s₃) E1 s₁ → Tn none s₁
  some : ∀ v s₁, wpAny (model prog w) A (letOwnedTupleGo target it v) (fun _ s₁' => wpAny (model prog w) A (assign target env v) (fun _ s₂ => wpAny (model prog w) A (execs body env) Tm E1 s₂) E1 s₁') E1 s₁ → Tn (some v) s₁
theorem forT {R : Result → Shared → Prop} {target it body orelse env} (I : Nat → Shared → Prop)
    (turn : ∀ n s E1 Tn Tm, I n s → FT prog w A I R target body orelse env n E1 Tn Tm → wpAny (model prog w) A (pyNext it) Tn E1 s)
    (n : Nat) (h : I n s) (ht : ∀ v, letOwnedTupleGo target it v = pure () := by intro _; rfl) : codeAny (model prog w) A (.forLoop target it body orelse env) R s :=
  codeAny_forLoop I (fun n s hI => turn n s _ _ (fun f s₃ => match f with
          | .next | .cont => ∃ m, m < n ∧ I m s₃
          | .brk => R (.ok .next) s₃
          | .ret v => R (.ok (.ret v)) s₃) hI ⟨fun m _ hm hi => ⟨m, hm, hi⟩, fun _ h => h, fun _ _ h => h, fun _ h => h, fun _ _ h => h, fun m _ hm hi => ⟨m, hm, hi⟩⟩) n h ht
theorem forOnce {R : Result → Shared → Prop} {target it body orelse env}
    (turn : ∀ E1 Tn Tm, FT prog w A (fun _ _ => False) R target body orelse env 0 E1 Tn Tm → wpAny (model prog w) A (pyNext it) Tn E1 s) (ht : ∀ v, letOwnedTupleGo target it v = pure () := by intro _; rfl) : codeAny (model prog w) A (.forLoop target it body orelse env) R s :=
  forT (fun n s' => n = 0 ∧ s' = s) (fun n s' E1 Tn Tm hI g => by
    obtain ⟨e1, e2⟩ := hI
    subst e1
    subst e2
    exact turn E1 Tn Tm ⟨fun m _ hm _ => absurd hm (Nat.not_lt_zero m), g.brk, g.ret, g.none, g.some, fun m _ hm _ => absurd hm (Nat.not_lt_zero m)⟩) 0 ⟨rfl, rfl⟩ ht
theorem forL {R : Result → Shared → Prop} {target it body orelse env} (I : Nat → Shared → Prop)
    (turn : ∀ n s E1 Tn Tm, I n s → FL prog w A I R target it body orelse env n E1 Tn Tm → wpAny (model prog w) A (pyNext it) Tn E1 s)
    (n : Nat) (h : I n s) : codeAny (model prog w) A (.forLoop target it body orelse env) R s :=
  codeAny_forLoop_any I (fun n s hI => turn n s _ _ (fun f s₃ => match f with
          | .next | .cont => ∃ m, m < n ∧ I m s₃
          | .brk => R (.ok .next) s₃
          | .ret v => R (.ok (.ret v)) s₃) hI ⟨fun m _ hm hi => ⟨m, hm, hi⟩, fun _ h => h, fun _ _ h => h, fun _ h => h, fun _ _ h => h⟩) n h
end
theorem lk_skip {x y : Str} {v : Value} {l : List (Str × Value)} {r : Option Value} (h : l.lookup x = r) (hxy : (x == y) = false := by kernel_rfl) : List.lookup x ((y, v) :: l) = r := by
  rw [List.lookup_cons, hxy]; exact h
theorem lk_here {x : Str} {v : Value} {l : List (Str × Value)} : List.lookup x ((x, v) :: l) = some v := by
  rw [List.lookup_cons]; simp
end Mine.Internal
end

section
open PySem PySem.W PyProof.Rows PySem.Calls
set_option maxRecDepth 100000
set_option maxHeartbeats 4000000
namespace Mine.Internal

noncomputable abbrev accObj (d : Addr) (xs : List Value) (n : Nat) : Obj := { cls := .ref 178, dict := some d, data := .seq xs.toArray n }

theorem ga178 (w : World) : findIn (Kf w) (.ref 178) "__getattribute__" = some (some (.builtin "list.__getattribute__")) := by kernel_rfl
theorem gt178 (w : World) : findIn (Kf w) (.ref 178) "__getattr__" = some none := by kernel_rfl
theorem canon_lga : Manifest.canonical "list.__getattribute__" = "object.__getattribute__" := by decide +kernel

theorem accI {h : Heap} {x d : Addr} {xs : List Value} {n : Nat} {od : Obj} (hx : h.get? x = some (accObj d xs n)) (hd : h.get? d = some od) : InstAt h x (accObj d xs n) 178 (some od) := ⟨hx, rfl, rfl, hd⟩

section
variable {A : Around} {E : Value → Shared → Prop} {s : Shared} {w : World} {x d : Addr} {xs : List Value} {n : Nat} {od : Obj}

theorem acc_getMethod {name : Str} {f tf : Value} {pl : Sem Bool} {Q : Value × List Value → Shared → Prop} (g : Gr w s.heap) (hx : s.heap.get? x = some (accObj d xs n)) (hd : s.heap.get? d = some od)
    (hf : findIn (Kf w) (.ref 178) name = some (some f)) (ht : typeIn (Kf w) f = some tf) (hk : (tf != .type "function" && tf != .type "method_descriptor" && tf != .type "wrapper_descriptor") = false)
    (hl : lookIn name od = some none) (h : Q (f, [.ref x]) s) : wpAny (model Pg w) A (getMethod (.ref x) name pl) Q E s := by
  have I := accI hx hd
  unfold getMethod specialOf
  refine wpAny_bind (wpAny_bind (I.type.here ((looks_findIn g.X (ga178 w)).here ?_)))
  dsimp only
  rw [canon_lga, if_neg (by decide)]
  refine wpAny_bind (wpAny_bind (I.type.here ((looks_findIn g.X (gt178 w)).here ?_)))
  refine wpAny_bind (wpAny_bind (I.type.here ((looks_findIn g.X hf).here (wpAny_bind ((looks_typeIn g.X ht).here ?_)))))
  rw [hk, if_neg (by decide)]
  refine wpAny_bind (wpAny_loadPart hx ?_)
  refine wpAny_bind (wpAny_bind (wpAny_loadPart hd ?_))
  rw [nsLook_of hl]
  exact wpAny_pure (wpAny_bind (wpAny_rule (wpAny_pure h)))
end
end Mine.Internal
end

section
open PySem PySem.W PyProof.Rows PySem.Calls
set_option maxRecDepth 100000
set_option maxHeartbeats 4000000
namespace Mine.Internal

theorem sub178 (w : World) : mroIn (Kf w) 178 (.type "list") = some true := by kernel_rfl

theorem mapSeq_acc (d : Addr) (xs : List Value) (n : Nat) (f : Array Value → Array Value) (ys : List Value) (h : f xs.toArray = ys.toArray) : ∃ n', Obj.mapSeq f (accObj d xs n) = accObj d ys n' := by
  refine ⟨if (f xs.toArray).size == xs.toArray.size then n else n + 1, ?_⟩
  show (⟨_, _, .seq (f xs.toArray) (if (f xs.toArray).size == xs.toArray.size then n else n + 1), _⟩ : Obj) = _
  rw [h]

section
variable {A : Around} {E : Value → Shared → Prop} {s : Shared} {w : World} {x d : Addr} {xs : List Value} {n : Nat} {Q : Value → Shared → Prop}

theorem acc_isList (g : Gr w s.heap) (hx : s.heap.get? x = some (accObj d xs n)) : Looks (model Pg w) s.heap (isInstance (.ref x) (.type "list")) true :=
  (show Looks (model Pg w) s.heap (typeOf (.ref x)) (.ref 178) from (Looks.ld hx).andThen .now).andThen (looks_mroIn g.X (sub178 w))

theorem acc_call {id m : String} {b : Builtin} {rest : List Value} (g : Gr w s.heap) (hx : s.heap.get? x = some (accObj d xs n))
    (kd : builtinKind id = some .slot ∨ builtinKind id = some .method) (hs : splitId id = some ("list", m)) (pl : plainId id = true) (hb : entryFor table id = some b) (ha : argsOk id ⟨.ref x :: rest, []⟩)
    (hc : wpAny (model Pg w) A.in1 (b ⟨.ref x :: rest, []⟩) (fun fin s' => ∃ v, fin = .done (.ret v) ∧ Q v s') E s) : wpAny (model Pg w) A (call (.builtin id) (.ref x :: rest)) Q E s := by
  refine wpAny_call (codeAny_call_builtin pl hb ?_)
  have L := acc_isList g hx
  have hc' := wpAny_mono (Q' := fun fin s' => match fin with
    | .done f => (match (Except.ok f : Result) with | .ok (.ret v) => Q v s' | .ok _ => False | .error e => E e s')
    | .again c' => c'.quiet = true ∧ codeAny (model Pg w) A c' (fun r s' => match r with | .ok (.ret v) => Q v s' | .ok _ => False | .error e => E e s') s') hc
    (fun fin s' h' => by obtain ⟨v, rfl, hv⟩ := h'; exact hv) (fun _ _ h' => h')
  refine gen fun Y Z g' => ?_
  have hc' := g' () _ hc'
  clear g'
  rcases kd with h | h <;>
  · unfold checkBuiltinCall
    rw [h]
    dsimp only
    rw [hs]
    dsimp only
    refine wpAny_bind (L.here ?_)
    refine wpAny_ite_false (by rfl) ?_
    cases hsig : Manifest.signature? id with
    | none => exact wpAny_pure hc'
    | some sig =>
      simp only [argsOk, hsig] at ha
      have h2 : Bind.checkArgs id sig ⟨.ref x :: rest, []⟩ = pure () := ha
      show wpAny _ _ (Bind.checkArgs id sig ⟨.ref x :: rest, []⟩) _ _ s
      rw [h2]; exact wpAny_pure hc'

theorem acc_upd {f : Array Value → Array Value} {ys : List Value} {Q : Unit → Shared → Prop} (hx : s.heap.get? x = some (accObj d xs n)) (hf : f xs.toArray = ys.toArray) (hz : xs.length ≤ 1000) (hz' : ys.length ≤ 1000)
    (h : ∀ h' n', h'.get? x = some (accObj d ys n') → Heap.SameBut x s.heap h' → Q () { s with heap := h' }) : wpAny (model Pg w) A (updateSeq x f) Q E s := by
  obtain ⟨n', hn⟩ := mapSeq_acc d xs n f ys hf
  refine wpAny_updateSeq hx rfl (h _ n' ?_ (Heap.SameBut.update ..)) ?_ ?_
  · rw [← hn]; exact Heap.get?_update_self _ hx (by rw [hn]; rfl)
  · rw [List.size_toArray]; simp only [sizeLine]; (first | with_reducible exact Nat.le_trans (by assumption) (by decide) | omega)
  · rw [hf, List.size_toArray]; simp only [sizeLine]; (first | with_reducible exact Nat.le_trans (by assumption) (by decide) | omega)

theorem acc_append {v : Value} (g : Gr w s.heap) (hx : s.heap.get? x = some (accObj d xs n)) (hz : xs.length < 1000)
    (h : ∀ h' n', h'.get? x = some (accObj d (xs ++ [v]) n') → Heap.SameBut x s.heap h' → Q .none { s with heap := h' }) : wpAny (model Pg w) A (call (.builtin "list.append") [.ref x, v]) Q E s := by
  refine acc_call (m := "append") g hx (.inr (by decide +kernel)) (by decide +kernel) (by decide +kernel) entry_list_append (args_list_append _ _) ?_
  show wpAny _ _ (updateSeq x (·.push v) >>= fun _ => ret .none) _ _ s
  exact wpAny_bind (acc_upd hx (by first | exact nilT | exact nil1 | k_mem | simp) (by omega) (by simp; omega) fun h' n' e1 e2 => wpAny_pure ⟨.none, rfl, h h' n' e1 e2⟩)

theorem acc_len (g : Gr w s.heap) (hx : s.heap.get? x = some (accObj d xs n)) 
    (h : Q (.int xs.length s.toks) { s with toks := s.toks + 1 }) : wpAny (model Pg w) A (call (.builtin "list.__len__") [.ref x]) Q E s := by
  refine acc_call (m := "__len__") g hx (.inl (by decide +kernel)) (by decide +kernel) (by decide +kernel) entry_list_len (args_list_len _) ?_
  show wpAny _ _ (do retInt (← seqSize x)) _ _ s
  unfold seqSize
  refine wpAny_bind (wpAny_bind (wpAny_loadPart hx (wpAny_pure (wpAny_bind (wpAny_mkInt (wpAny_pure ⟨_, rfl, ?_⟩))))))
  rw [List.size_toArray]
  exact h
end
end Mine.Internal
end

section
open PySem PySem.W PyProof.Rows PySem.Calls
set_option maxRecDepth 100000
set_option maxHeartbeats 4000000
namespace Mine.Internal

theorem nodeque178 (w : World) : mroIn (Kf w) 178 (.type "collections.deque") = some false := by kernel_rfl
theorem gi178 (w : World) : findIn (Kf w) (.ref 178) "__getitem__" = some (some (.builtin "list.__getitem__")) := by kernel_rfl
theorem si178 (w : World) : findIn (Kf w) (.ref 178) "__setitem__" = some (some (.builtin "list.__setitem__")) := by kernel_rfl
theorem it178 (w : World) : findIn (Kf w) (.ref 178) "__iter__" = some (some (.builtin "list.__iter__")) := by kernel_rfl

section
variable {A : Around} {E : Value → Shared → Prop} {s : Shared} {w : World} {x d : Addr} {xs : List Value} {n : Nat} {Q : Value → Shared → Prop}

theorem acc_type (hx : s.heap.get? x = some (accObj d xs n)) : Looks (model Pg w) s.heap (typeOf (.ref x)) (.ref 178) := (Looks.ld hx).andThen .now

theorem acc_special {name : Str} {id : String} {args : List Value} {Q : Option Value → Shared → Prop} (g : Gr w s.heap) (hx : s.heap.get? x = some (accObj d xs n)) (hf : findIn (Kf w) (.ref 178) name = some (some (.builtin id)))
    (hb : ∀ self, bindSpecial (.builtin id) self = pure (.builtin id, [self])) (h : wpAny (model Pg w) A (call (.builtin id) (.ref x :: args)) (fun v s' => Q (some v) s') E s) :
    wpAny (model Pg w) A (callSpecial? (.ref x) name args) Q E s := by
  unfold callSpecial? specialOf
  refine wpAny_bind (wpAny_bind ((acc_type hx).here ((looks_findIn g.X hf).here (wpAny_holding ?_))))
  rw [hb]
  refine wpAny_bind (wpAny_pure (wpAny_bind (wpAny_mono ?_ (fun v s' z => wpAny_pure z) fun _ _ z => z)))
  exact h

theorem acc_seqKey {k : Value} {name : Str} (g : Gr w s.heap) (hx : s.heap.get? x = some (accObj d xs n)) (h : Q k s) : wpAny (model Pg w) A (sequenceKey (.ref x) k name) Q E s := by
  unfold sequenceKey
  refine wpAny_bind ((acc_type hx).here ?_)
  dsimp only [seqItemTypes]
  refine wpAny_bind (wpAny_bind ((looks_mroIn g.X (nodeque178 w)).here ?_))
  exact wpAny_pure (wpAny_pure h)

theorem acc_item {k : Int} {t : Tok} {v : Value} (g : Gr w s.heap) (hx : s.heap.get? x = some (accObj d xs n)) (h0 : 0 ≤ k) (hfit : k < 2 ^ 63) (hi : xs[k.toNat]? = some v) (h : Q v s) : wpAny (model Pg w) A (getItem (.ref x) (.int k t)) Q E s := by
  unfold getItem
  refine wpAny_holding (wpAny_bind (acc_seqKey g hx (wpAny_bind (acc_special g hx (gi178 w) slot_list_getitem.bind ?_))))
  refine acc_call (m := "__getitem__") g hx (by first | exact .inl (by decide +kernel) | exact .inr (by decide +kernel)) (by decide +kernel) (by decide +kernel) entry_list_getitem (args_list_getitem _ _) ?_
  show wpAny _ _ (Builtin.List.listSubscript? (.int k t) >>= _) _ _ s
  refine wpAny_bind (wpAny_listSubscript_int (fitsIndex_of h0 hfit) ?_)
  clear hfit
  obtain ⟨j, ej⟩ := Int.eq_ofNat_of_zero_le h0
  subst ej
  have hx' : xs.toArray[j]? = some v := by rw [List.getElem?_toArray]; exact hi
  show wpAny _ _ ((seqItemAt x j >>= fun r => pure (r.map (j, ·))) >>= _) _ _ s
  refine wpAny_bind (wpAny_bind (wpAny_seqItemAt hx rfl (wpAny_pure ?_)))
  rw [hx']
  first
    | exact wpAny_bind (wpAny_pure (wpAny_pure ⟨v, rfl, wpAny_pure h⟩))
    | exact wpAny_pure ⟨v, rfl, wpAny_pure h⟩

theorem acc_pop_body {v : Value} {ys : List Value} {Q : Fin → Shared → Prop} (hx : s.heap.get? x = some (accObj d (ys ++ [v]) n)) (hz : ys.length < 1000)
    (h : ∀ h' n', h'.get? x = some (accObj d ys n') → Heap.SameBut x s.heap h' → Q (.done (.ret v)) { s with heap := h' }) : wpAny (model Pg w) A (Builtin.«list.pop» ⟨[.ref x], []⟩) Q E s := by
  show wpAny _ _ (Builtin.List.listItems (.ref x) >>= _) _ _ s
  have hne : ¬ ((ys ++ [v]).toArray.isEmpty = true) := by simp
  have hk : seqIndex? (-1) (ys ++ [v]).toArray.size = some ys.length := by
    rw [List.size_toArray, List.length_append, List.length_singleton]
    unfold seqIndex?
    have e : ((-1 : Int) < 0) := by decide
    simp only [e, if_true]
    have e2 : (decide (0 ≤ (-1 : Int) + ((ys.length + 1 : Nat) : Int)) && decide ((-1 : Int) + ((ys.length + 1 : Nat) : Int) < ((ys.length + 1 : Nat) : Int))) = true := by
      simp only [Bool.and_eq_true, decide_eq_true_eq]; omega
    rw [e2, if_pos rfl]
    congr 1
    omega
  unfold Builtin.List.listItems seqItems?
  refine wpAny_bind (wpAny_bind (wpAny_bind (wpAny_loadPart hx (wpAny_pure (wpAny_pure ?_)))))
  rw [if_neg hne]
  rw [hk]
  have hy : (ys ++ [v]).toArray[ys.length]? = some v := by simp
  simp only [Option.bind_some, hy, Option.map_some]
  refine wpAny_bind (show wpAny _ _ (updateSeq x _) _ _ s from acc_upd hx (ys := ys) (by simp [List.eraseIdx_append_of_length_le]) (by simp; omega) (by omega) fun h' n' e1 e2 => wpAny_pure (h h' n' e1 e2))
end
end Mine.Internal
end

section
open PySem PySem.W PyProof.Rows PySem.Calls
set_option maxRecDepth 100000
set_option maxHeartbeats 4000000
namespace Mine.Internal

theorem bounds_from {k n : Nat} (hk : k ≤ n) : sliceBounds (some (k : Int)) none none n = ((k : Int), (n : Int), 1) := by
  show ((if (1 : Int) > 0 then max 0 (min (if (k : Int) < 0 then (k : Int) + n else k) n) else max (-1) (min (if (k : Int) < 0 then (k : Int) + n else k) ((n : Int) - 1))), (if (1 : Int) > 0 then (n : Int) else -1), (1 : Int)) = _
  rw [if_pos (show (1 : Int) > 0 by decide), if_pos (show (1 : Int) > 0 by decide), if_neg (Int.not_lt.mpr (Int.natCast_nonneg k)), Int.min_eq_left (Int.ofNat_le.mpr hk), Int.max_eq_right (Int.natCast_nonneg k)]
theorem slice_from (xs : List Value) (k : Nat) (hk : k ≤ xs.length) : slicePick xs.toArray (some (k : Int)) none none = (xs.drop k).toArray := by
  have e : sliceBounds (some (k : Int)) none none xs.toArray.size = ((k : Int), (xs.length : Int), 1) := bounds_from hk
  unfold slicePick
  rw [e]
  dsimp only
  rw [show ((xs.length : Int)) = ((xs.length : Nat) : Int) from rfl, sliceRange_one, pick_run]
  congr 1
  rw [List.take_of_length_le]
  simp

section
variable {A : Around} {E : Value → Shared → Prop} {s : Shared} {w : World} {x d : Addr} {xs : List Value} {n : Nat} {Q : Value → Shared → Prop}

theorem acc_tail {value slice : Expr} {i : Value} (g : Gr w s.heap) (hx : s.heap.get? x = some (accObj d xs n)) (h : wpAny (model Pg w) A (getItem (.ref x) i) Q E s)
    (hs : ∃ l, subscripted slice false (.ref x) i = operate l (getItem (.ref x) i)) : wpAny (model Pg w) A (subscriptTail value slice (.ref x) i) Q E s := by
  unfold subscriptTail getitemInPython specialOf
  refine wpAny_bind (wpAny_bind (wpAny_bind ((acc_type hx).here ((looks_findIn g.X (gi178 w)).here (wpAny_pure ?_)))))
  obtain ⟨l, hs⟩ := hs
  rw [hs]
  exact wpAny_bind (wpAny_operateT (wpAny_mono h (fun r s' z => wpAny_bind (wpAny_letTemporaryGo (wpAny_pure z))) fun _ _ z => z))

theorem slice_sub {sl : Addr} {o : Obj} (ho : s.heap.get? sl = some o) (hc : o.cls = .type "slice") {Q : Option Int → Shared → Prop} (h : Q none s) : wpAny (model Pg w) A (Builtin.List.listSubscript? (.ref sl)) Q E s := by
  unfold Builtin.List.listSubscript?
  refine wpAny_bind (wpAny_specialOf (T := "slice") ⟨o, ho, hc⟩ slice_no_index ?_)
  refine wpAny_ite_true (by rfl) ?_
  exact wpAny_pure h

theorem slice_parts {sl : Addr} {o : Obj} {vl vu vs : Value} {lo hi st : Option Int} {Q : Value × Value × Value → Shared → Prop} (ho : s.heap.get? sl = some o) (hd : o.data = .fields #[vl, vu, vs]) (pl : IsPart vl lo) (pu : IsPart vu hi) (ps : IsPart vs st)
    (h0 : st ≠ some 0) (h : Q (rawPart lo, rawPart hi, rawPart st) s) : wpAny (model Pg w) A (Builtin.List.listSliceParts (.ref sl)) Q E s := by
  rw [listSliceParts_eq]
  have hstep : ¬ ((rawPart st == rawInt 0) = true) := by
    cases st with
    | none => exact Bool.false_ne_true
    | some c =>
      intro hh
      have : c = 0 := by simpa [rawPart, rawInt] using hh
      exact h0 (by rw [this])
  refine wpAny_bind (wpAny_field ho hd (x := vs) rfl (wpAny_bind (wpAny_listPart ps ?_)))
  rw [if_neg hstep]
  refine wpAny_bind (wpAny_field ho hd (x := vl) rfl (wpAny_bind (wpAny_listPart pl ?_)))
  exact wpAny_bind (wpAny_field ho hd (x := vu) rfl (wpAny_bind (wpAny_listPart pu (wpAny_pure h))))

theorem acc_items {Q : Array Value → Shared → Prop} (hx : s.heap.get? x = some (accObj d xs n)) (h : Q xs.toArray s) : wpAny (model Pg w) A (Builtin.List.listItems (.ref x)) Q E s := by
  unfold Builtin.List.listItems
  exact wpAny_bind (wpAny_seqItems hx rfl (wpAny_pure h))

theorem acc_from {sl : Addr} {k : Nat} {t : Tok} (g : Gr w s.heap) (hx : s.heap.get? x = some (accObj d xs n)) (hs : s.heap.get? sl = some { cls := .type "slice", data := .fields #[.int k t, .none, .none] }) (hk : k ≤ xs.length) (hz : xs.length ≤ 1000)
    (h : Q (.ref s.heap.objs.size) { s with heap := s.heap.push { cls := .type "list", data := .seq (xs.drop k).toArray } }) : wpAny (model Pg w) A (getItem (.ref x) (.ref sl)) Q E s := by
  unfold getItem
  refine wpAny_holding (wpAny_bind (acc_seqKey g hx (wpAny_bind (acc_special g hx (gi178 w) slot_list_getitem.bind ?_))))
  refine acc_call (m := "__getitem__") g hx (by first | exact .inl (by decide +kernel) | exact .inr (by decide +kernel)) (by decide +kernel) (by decide +kernel) entry_list_getitem (args_list_getitem _ _) ?_
  show wpAny _ _ (Builtin.List.listSubscript? (.ref sl) >>= _) _ _ s
  refine wpAny_bind (slice_sub hs rfl ?_)
  show wpAny _ _ (typeOf (.ref sl) >>= _) _ _ s
  refine wpAny_bind (wpAny_typeOf (T := "slice") ⟨_, hs, rfl⟩ ?_)
  rw [if_neg (by decide)]
  refine wpAny_bind (slice_parts hs rfl (.int k t) .none .none (by first | exact nilT | exact nil1 | k_mem | simp) ?_)
  refine wpAny_bind (acc_items hx ?_)
  refine wpAny_bind (wpAny_of_eq (sliceIndices_raw (some (k : Int)) none none xs.toArray.size (by first | exact nilT | exact nil1 | k_mem | simp)) ?_)
  refine wpAny_bind (wpAny_newObj_type ?_ (Nat.le_trans (slicePick_size_le xs.toArray (some (k : Int)) none none) (by rw [List.size_toArray]; simp only [sizeLine]; (first | with_reducible exact Nat.le_trans (by assumption) (by decide) | omega))))
  refine wpAny_pure ⟨_, rfl, wpAny_pure ?_⟩
  show Q _ { s with heap := s.heap.push { cls := .type "list", data := .seq (slicePick xs.toArray (some (k : Int)) none none) } }
  rw [slice_from xs k hk]
  exact h

theorem acc_setItem {sl : Addr} {vl : Value} {k : Nat} {lo : Option Int} {l : Addr} {ys : List Value} {m : Nat} {dd : Option Addr} {ss : Array (Option Value)} {Q : Unit → Shared → Prop} (g : Gr w s.heap) (hx : s.heap.get? x = some (accObj d xs n))
    (hs : s.heap.get? sl = some { cls := .type "slice", data := .fields #[vl, .none, .none] }) (pl : IsPart vl lo) (hlo : lo = some (k : Int) ∨ (lo = none ∧ k = 0)) (hk : k ≤ xs.length)
    (hl : s.heap.get? l = some { cls := .type "list", dict := dd, data := .seq ys.toArray m, slots := ss }) (hxl : x ≠ l) (hz : xs.length ≤ 500) (hz' : ys.length ≤ 500)
    (h : ∀ h' n', h'.get? x = some (accObj d (xs.take k ++ ys) n') → Heap.SameBut x s.heap h' → Q () { s with heap := h' }) : wpAny (model Pg w) A (setItem (.ref x) (.ref sl) (.ref l)) Q E s := by
  unfold setItem
  refine wpAny_holding (wpAny_bind (acc_seqKey g hx (wpAny_bind (acc_special g hx (si178 w) slot_list_setitem.bind ?_))))
  refine acc_call (m := "__setitem__") g hx (by first | exact .inl (by decide +kernel) | exact .inr (by decide +kernel)) (by decide +kernel) (by decide +kernel) entry_list_setitem (args_list_setitem _ _ _) ?_
  show wpAny _ _ (Builtin.List.listSubscript? (.ref sl) >>= _) _ _ s
  refine wpAny_bind (slice_sub hs rfl ?_)
  show wpAny _ _ (typeOf (.ref sl) >>= _) _ _ s
  refine wpAny_bind (wpAny_typeOf (T := "slice") ⟨_, hs, rfl⟩ ?_)
  rw [if_neg (by decide)]
  refine wpAny_bind (slice_parts hs rfl pl .none .none (by first | exact nilT | exact nil1 | k_mem | simp) ?_)
  dsimp only
  have hsame : Builtin.List.listSameRef (.ref x) (.ref l) = false := by
    unfold Builtin.List.listSameRef
    simpa using hxl
  refine wpAny_ite_false (by rw [hsame]; rfl) ?_
  have hitems : ∀ {Q : Array Value → Shared → Prop} {A : Around} {E : Value → Shared → Prop}, Q ys.toArray s → wpAny (model Pg w) A (Builtin.List.listAllItems (.ref l) "must assign iterable to extended slice") Q E s := by
    intro Q A E q
    unfold Builtin.List.listAllItems
    refine wpAny_bind (wpAny_typeOf (T := "list") ⟨_, hl, rfl⟩ ?_)
    rw [if_pos (by decide)]
    unfold Builtin.List.listItems
    exact wpAny_bind (wpAny_seqItems hl rfl (wpAny_pure q))
  refine wpAny_bind (hitems ?_)
  refine wpAny_bind (acc_items hx ?_)
  refine wpAny_bind (wpAny_of_eq (sliceIndices_raw lo none none xs.toArray.size (by first | exact nilT | exact nil1 | k_mem | simp)) ?_)
  have e : sliceBounds lo none none xs.toArray.size = ((k : Int), (xs.length : Int), 1) := by
    rcases hlo with rfl | ⟨rfl, rfl⟩
    · exact bounds_from hk
    · simp only [sliceBounds, Option.getD_none, List.size_toArray, show (1 : Int) > 0 by decide, if_true]
      rfl
  rw [e]
  dsimp only
  rw [if_pos (by decide)]
  refine wpAny_bind (wpAny_rule ?_)
  have ht : Builtin.List.listTooLong (xs.toArray.size + ys.toArray.size) = false := by
    unfold Builtin.List.listTooLong
    simp only [List.size_toArray, sizeLine, decide_eq_false_iff_not]
    omega
  refine wpAny_ite_false (by rw [ht]; rfl) ?_
  have hmax : (max (k : Int) (xs.length : Int)).toNat = xs.length := by omega
  refine wpAny_bind (show wpAny _ _ (updateSeq x _) _ _ s from acc_upd hx (ys := xs.take k ++ ys) ?_ (by (first | with_reducible exact Nat.le_trans (by assumption) (by decide) | omega)) (by simp; omega) fun h' n' e1 e2 => ?_)
  · rw [hmax]
    apply Array.ext'
    simp
  · exact wpAny_bind (wpAny_letGo (wpAny_pure ⟨.none, rfl, wpAny_pure (h h' n' e1 e2)⟩))
end
end Mine.Internal
end

section
open PySem PySem.W PyProof.Rows PySem.Calls Builtin.ObjectAttr
set_option maxRecDepth 100000
set_option maxHeartbeats 4000000
namespace Mine.Internal

section
variable {A : Around} {E : Value → Shared → Prop} {s : Shared} {w : World} {x d : Addr} {xs : List Value} {n : Nat} {od : Obj} {Q : Value → Shared → Prop}

theorem acc_getAttr {name : Str} {v : Value} {expr : Bool} {attr : Option Value} (g : Gr w s.heap) (hx : s.heap.get? x = some (accObj d xs n)) (hd : s.heap.get? d = some od) (hl : lookIn name od = some (some v))
    (ha : findIn (Kf w) (.ref 178) name = some attr) (hn : noGet (Kf w) attr = true) (hh : handedIn v = true) (h : Q v { s with toks := s.toks + 1 }) : wpAny (model Pg w) A (getAttr (.ref x) name expr) Q E s := by
  obtain ⟨hp, gg, dd, tt, oo⟩ := s
  dsimp only at g hx hd
  have I := accI hx hd
  have hf := findObj_own (K := Kf w) (C := 178) (name := name) (od := od) (by kernel_rfl) ha hn hl
  unfold getAttr getAttrBy
  refine wpAny_bind (wpAny_mkText (wpAny_holding (wpAny_bind (I.type.at (wpAny_bind ((looks_findIn g.X (ga178 w)).at ?_))))))
  show wpAny _ _ (getAttrByItsOwn _ _ _ _ _ _) _ _ _
  unfold getAttrByItsOwn hookBefore
  refine wpAny_bind (show wpAny _ _ (typeLookup (.ref 178) "__getattr__") _ _ _ from (looks_findIn g.X (gt178 w)).at ?_)
  refine wpAny_bind (wpAny_attempt (wpAny_holding ?_))
  have e : callGetattribute (.ref x) (.str name tt) (.builtin "list.__getattribute__") expr = boundAndCalled (.builtin "list.__getattribute__") (.ref x) (.str name tt) := by
    unfold callGetattribute
    rw [if_neg]
    simp [onTheHeap]
  rw [e]
  unfold boundAndCalled
  have hb : bindSpecial (.builtin "list.__getattribute__") (.ref x) = pure (.builtin "list.__getattribute__", [.ref x]) := by kernel_rfl
  rw [hb]
  refine wpAny_bind (wpAny_pure ?_)
  refine acc_call (m := "__getattribute__") (s := ⟨hp, gg, dd, tt + 1, oo⟩) g hx (.inl (by decide +kernel)) (by decide +kernel) (by decide +kernel) PySem.F.entry_list_ga (PySem.F.args_list_getattribute_2 _ _) ?_
  refine wpAny_bind (wpAny_pure (wpAny_bind (wpAny_pure (wpAny_bind (I.type.at (wpAny_bind ((looks_find g.X I hf).at (wpAny_pure ⟨v, rfl, ?_⟩))))))))
  show wpAny _ _ (handedOut v) _ _ _
  rw [handedOut_of hh]
  exact wpAny_pure h

theorem sa178 (w : World) : findIn (Kf w) (.ref 178) "__setattr__" = some (some (.builtin "object.__setattr__")) := by kernel_rfl
theorem obj178 (w : World) : mroIn (Kf w) 178 (.type "object") = some true := by kernel_rfl
theorem mro178 (w : World) : (clsIn (Kf w) 178).map (·.mro) = some [.ref 178, .type "list", .type "object"] := by kernel_rfl
theorem dict178 (w : World) : (clsIn (Kf w) 178).map (·.hasDict) = some true := by kernel_rfl
theorem refuse_list (self : Value) : refuseLoop self "__setattr__" [.type "list", .type "object"] = pure () := by kernel_rfl

theorem acc_setAttr {name : Str} {v : Value} {es es' : List DictEntry} {k k' : Nat} {Q : Unit → Shared → Prop} (g : Gr w s.heap) (hx : s.heap.get? x = some (accObj d xs n)) (hd : s.heap.get? d = some (dictOf es k))
    (ht : takerIn (Kf w) 178 name = some none) (hl : (getL name es).isSome = true) (e : (putL name (PyData.keyHash w.params name) (.str name (s.toks + 1)) v es, putN name es k) = (es', k')) (hz : es'.length ≤ 1000)
    (h : ∀ h', h'.get? d = some (dictOf es' k') → Heap.SameBut d s.heap h' → Q () { s with heap := h', toks := s.toks + 2 }) : wpAny (model Pg w) A (setAttr (.ref x) name v) Q E s := by
  obtain ⟨hp, gg, dd, tt, oo⟩ := s
  dsimp only at g hx hd
  have I := accI hx hd
  obtain ⟨e1, e2⟩ := Prod.mk.inj e
  have SF := PySem.F.store_object
  have sub : Looks (model Pg w) hp (isInstance (.ref x) (.type "object")) true := I.type.andThen (looks_mroIn g.X (obj178 w))
  unfold setAttr callSpecial? specialOf
  refine wpAny_bind (wpAny_mkText (wpAny_bind (wpAny_bind (wpAny_bind (I.type.at ((looks_findIn g.X (sa178 w)).at (wpAny_holding ?_)))))))
  rw [SF.slot.bind]
  refine wpAny_bind (wpAny_pure (wpAny_bind (wpAny_call ?_)))
  refine codeAny_call_builtin SF.slot.plain SF.entry (@check_slot (model Pg w) _ _ ⟨hp, gg, dd, tt + 1, oo⟩ "object.__setattr__" "object" "__setattr__" (.ref x) [.str name tt, v] [] _ SF.kind SF.split sub (SF.args (.ref x) (.str name tt) v) ?_)
  obtain ⟨attr, ha, hr⟩ := Option.bind_eq_some_iff.mp ht
  obtain ⟨cd, hc, hm⟩ := Option.map_eq_some_iff.mp (mro178 w)
  have hdd : cd.hasDict = true := by
    have := dict178 w
    rw [hc] at this
    exact Option.some.inj this
  have hmro : Looks (model Pg w) hp (mroOf (.ref 178)) cd.mro := (looks_clsIn g.X hc).andThen .now
  have L3 : Looks (model Pg w) hp (storeTaker? attr) none := by
    cases attr with
    | none => exact .now
    | some a =>
      obtain ⟨b, hb, hq⟩ := Option.map_eq_some_iff.mp hr
      refine (looks_takesIn g.X hb).andThen ?_
      cases b with
      | true => cases hq
      | false => exact .now
  show wpAny _ _ (Builtin.«object.__setattr__» ⟨[.ref x, .str name tt, v], []⟩) _ _ _
  rw [osa_eq, refuse_eq]
  refine wpAny_bind (wpAny_bind (I.type.at (wpAny_bind (hmro.at ?_))))
  rw [hm, refuseLoop_ref, refuse_list]
  refine wpAny_pure (wpAny_bind (I.type.at (wpAny_bind ((looks_findIn g.X ha).at (wpAny_bind (L3.at ?_))))))
  show wpAny _ _ (storeInOwnDict (.ref x) (.ref 178) (.str name tt) name v _) _ _ _
  unfold storeInOwnDict
  refine wpAny_bind (wpAny_pure ?_)
  refine wpAny_bind (show wpAny _ _ (instanceDict x true) _ _ _ from wpAny_bind (wpAny_loadPart hx (wpAny_bind ((looks_clsIn g.X hc).at ?_))))
  rw [hdd]
  refine wpAny_pure (a := some d) ?_
  show wpAny _ _ (storeInDict d (.str name tt) name v) _ _ _
  unfold storeInDict nsSet
  refine wpAny_bind (wpAny_pure (wpAny_bind (wpAny_bind (wpAny_bind (wpAny_askSetting (wpAny_pure (wpAny_bind (wpAny_mkText (wpAny_bind (wpAny_loadPart hd ?_))))))))))
  dsimp only
  have c : aRefKeyMayBeTheName name es.toArray = false := by
    unfold getL at hl
    rw [aRefKeyMayBeTheName_at]
    split at hl
    · rename_i en he
      have q1 : (fun x : DictEntry => x.key.isStr name) en = true := List.find?_some (p := fun x : DictEntry => x.key.isStr name) he
      have q2 : (es.any fun x => x.key.isStr name) = true := List.any_eq_true.mpr ⟨en, List.mem_of_find?_eq_some he, q1⟩
      rw [show (es.toArray.any fun x => x.key.isStr name) = true from by rw [← Array.any_toList]; exact q2]
      rfl
    · split at hl
      · cases hl
      · rename_i q
        rw [show (es.toArray.any (·.refKey)) = false from by rw [← Array.any_toList]; simpa using q, Bool.and_false]
  rw [c]
  have hg' : (hp.update d (Obj.putName name (PyData.keyHash w.params name) (.str name (tt + 1)) v)).get? d = some (dictOf es' k') := by
    have z : Obj.putName name (PyData.keyHash w.params name) (.str name (tt + 1)) v (dictOf es k) = dictOf es' k' := by rw [putName_dict, e1, e2]
    rw [← z]
    exact Heap.get?_update_self _ hd (by rw [z]; rfl)
  refine wpAny_updatePart hd ?_
  refine wpAny_bind (wpAny_lookBehind hg' (pastItsLine_dict (by rw [List.size_toArray]; simp only [sizeLine]; (first | with_reducible exact Nat.le_trans (by assumption) (by decide) | omega))) (wpAny_pure ?_))
  exact wpAny_pure (wpAny_pure (h _ hg' (Heap.SameBut.update ..)))
end
end Mine.Internal
end

section
open PySem PySem.W PyProof.Rows PySem.Calls
set_option maxRecDepth 100000
set_option maxHeartbeats 4000000
set_option linter.unusedVariables false
namespace Mine.Internal

noncomputable abbrev supObj (x : Addr) : Obj := { cls := .type "super", dict := none, data := .fields #[.ref 178, .ref x, .ref 178], slots := #[] }
noncomputable abbrev bndObj (T id : String) (x : Addr) : Obj := { cls := .type T, data := .fields #[.builtin id, .ref x] }

theorem md_slot : Slot "method_descriptor" "__get__" "method_descriptor.__get__" := .of (owner := "method_descriptor") (n := "__get__") (by rw [typeLookup_type, builtinLookup_eq_fast]; kernel_rfl) (by decide +kernel) (by decide +kernel) (by decide +kernel)
  (by first | exact .inl (by decide +kernel) | exact .inr (by decide +kernel)) (by rw [isSubtype_type]; kernel_rfl)
theorem wd_slot : Slot "wrapper_descriptor" "__get__" "wrapper_descriptor.__get__" := .of (owner := "wrapper_descriptor") (n := "__get__") (by rw [typeLookup_type, builtinLookup_eq_fast]; kernel_rfl) (by decide +kernel) (by decide +kernel) (by decide +kernel)
  (by first | exact .inl (by decide +kernel) | exact .inr (by decide +kernel)) (by rw [isSubtype_type]; kernel_rfl)
theorem md_entry : entryFor table "method_descriptor.__get__" = some Builtin.«method_descriptor.__get__» := entryFor_of_tree (by kernel_rfl)
theorem wd_entry : entryFor table "wrapper_descriptor.__get__" = some Builtin.«wrapper_descriptor.__get__» := entryFor_of_tree (by kernel_rfl)
theorem md_args (a b c : Value) : argsOk "method_descriptor.__get__" ⟨[a, b, c], []⟩ := by unfold argsOk; kernel_rfl
theorem wd_args (a b c : Value) : argsOk "wrapper_descriptor.__get__" ⟨[a, b, c], []⟩ := by unfold argsOk; kernel_rfl
theorem ty_pop : typeOf (.builtin "list.pop") = pure (.type "method_descriptor") := by show builtinType _ = _; rw [builtinType_eq_fast]; kernel_rfl
theorem ty_len : typeOf (.builtin "list.__len__") = pure (.type "wrapper_descriptor") := by show builtinType _ = _; rw [builtinType_eq_fast]; kernel_rfl
theorem ty_init : typeOf (.builtin "list.__init__") = pure (.type "wrapper_descriptor") := by show builtinType _ = _; rw [builtinType_eq_fast]; kernel_rfl

section
variable {A : Around} {E : Value → Shared → Prop} {w : World} {x d : Addr} {xs : List Value} {n : Nat} {h : Heap} {gg : Array GenState} {dd : Drawn} {t : Nat} {os : OsState}

theorem acc_subl (g : Gr w h) : Looks (model Pg w) h (isSubtype (.ref 178) (.type "list")) true := looks_mroIn g.X (sub178 w)

theorem wd_get {id : String} {Q : Fin → Shared → Prop} (g : Gr w h) (hx : h.get? x = some (accObj d xs n)) (ho : (".".intercalate (id.cutAt '.').dropLast) = "list")
    (hq : Q (.done (.ret (.ref h.objs.size))) ⟨h.push (bndObj "method-wrapper" id x), gg, dd, t, os⟩) :
    wpAny (model Pg w) A (Builtin.«wrapper_descriptor.__get__» ⟨[.builtin id, .ref x, .ref 178], []⟩) Q E ⟨h, gg, dd, t, os⟩ := by
  have L := acc_subl g
  unfold Builtin.«wrapper_descriptor.__get__»
  repeat (first | (with_reducible refine Looks.at L ?_) | (with_reducible refine wpAny_loadPart hx ?_) | wp_step | rw [ho] | dsimp only)
  exact hq

theorem md_get {id : String} {Q : Fin → Shared → Prop} (g : Gr w h) (hx : h.get? x = some (accObj d xs n)) (ho : (".".intercalate (id.cutAt '.').dropLast) = "list") (ht : Manifest.toldItsClass.contains id = false)
    (hq : Q (.done (.ret (.ref h.objs.size))) ⟨h.push (bndObj "builtin_function_or_method" id x), gg, dd, t, os⟩) :
    wpAny (model Pg w) A (Builtin.«method_descriptor.__get__» ⟨[.builtin id, .ref x, .ref 178], []⟩) Q E ⟨h, gg, dd, t, os⟩ := by
  have L := acc_subl g
  have ht' : decide (Manifest.toldItsClass.contains id = true) = false := by rw [ht]; rfl
  unfold Builtin.«method_descriptor.__get__»
  repeat (first | (with_reducible refine Looks.at L ?_) | (with_reducible refine wpAny_loadPart hx ?_) | (with_reducible refine wpAny_ite_false ht' ?_) | wp_step | rw [ho] | dsimp only)
  exact hq

theorem sup_ga {so : Addr} {name : Str} {tk : Tok} {id T dT gid : String} {b : Builtin} {Q : Fin → Shared → Prop} (g : Gr w h) (hso : h.get? so = some (supObj x)) (hx : h.get? x = some (accObj d xs n))
    (hf : alongIn (Kf w) name [.type "list", .type "object"] = some (some (.builtin id))) (hty : typeOf (.builtin id) = pure (.type dT)) (hsl : Slot dT "__get__" gid) (hent : entryFor table gid = some b) (hargs : argsOk gid ⟨[.builtin id, .ref x, .ref 178], []⟩)
    (hget : ∀ {A : Around} {Q : Fin → Shared → Prop} {E : Value → Shared → Prop}, Q (.done (.ret (.ref h.objs.size))) ⟨h.push (bndObj T id x), gg, dd, t, os⟩ → wpAny (model Pg w) A (b ⟨[.builtin id, .ref x, .ref 178], []⟩) Q E ⟨h, gg, dd, t, os⟩)
    (hxn : x ≠ 178) (hn : (name == ("__class__" : Str)) = false)
    (hq : Q (.done (.ret (.ref h.objs.size))) ⟨h.push (bndObj T id x), gg, dd, t, os⟩) :
    wpAny (model Pg w) A (Builtin.«super.__getattribute__» ⟨[.ref so, .str name tk], []⟩) Q E ⟨h, gg, dd, t, os⟩ := by
  have hne : (Value.ref x == Value.ref 178) = false := by simp [hxn]
  have hno : Looks (model Pg w) h (opaqueClassAbove (.ref 178)) none := looks_opaque g.X (by kernel_rfl)
  have hlk := hsl.lookup
  obtain ⟨cd, hc, hm⟩ := Option.map_eq_some_iff.mp (mro178 w)
  have hC : Looks (model Pg w) h (mroOf (.ref 178)) [.ref 178, .type "list", .type "object"] := hm ▸ (looks_clsIn g.X hc).andThen .now
  have hl : (([.ref 178, .type "list", .type "object"] : List Value).dropWhile (· != .ref 178)).drop 1 = [.type "list", .type "object"] := by decide +kernel
  have hT : (⟨h, gg, dd, t, os⟩ : Shared).TypeIs (.builtin id) dT := hty
  have hdt : (supObj x).data = .fields #[.ref 178, .ref x, .ref 178] := rfl
  have f0 : (#[.ref 178, .ref x, .ref 178] : Array Value)[0]? = some (.ref 178) := rfl
  have f1 : (#[.ref 178, .ref x, .ref 178] : Array Value)[1]? = some (.ref x) := rfl
  have f2 : (#[.ref 178, .ref x, .ref 178] : Array Value)[2]? = some (.ref 178) := rfl
  have hn' : decide ((name == ("__class__" : Str)) = true) = false := by rw [hn]; rfl
  have hself : (if (Value.ref x == Value.ref 178) = true then Value.none else Value.ref x) = Value.ref x := by rw [hne]; rfl
  have hne' : decide ((Value.ref x == Value.ref 178) = true) = false := by rw [hne]; rfl
  unfold Builtin.«super.__getattribute__»
  repeat (first
    | (with_reducible refine wpAny_field hso hdt f0 ?_) | (with_reducible refine wpAny_field hso hdt f1 ?_) | (with_reducible refine wpAny_field hso hdt f2 ?_)
    | (with_reducible refine ks_wpAny_notOpaque hno ?_)
    | (with_reducible refine Looks.at hC ?_; rw [hl])
    | (refine ks_forIn_along g.X (fun _ _ => rfl) rfl ?_ hf)
    | (with_reducible refine wpAny_of_eq hty ?_)
    | (with_reducible refine wpAny_of_eq hlk ?_)
    | (rw [hself])
    | (with_reducible refine wpAny_call_entry hsl hT hent ?_ hargs)
    | (with_reducible refine hget ?_)
    | (with_reducible refine ⟨_, rfl, ?_⟩)
    | (with_reducible refine wpAny_ite_false hn' ?_) | (with_reducible refine wpAny_ite_false hne' ?_)
    | wp_step
    | dsimp only)
  all_goals exact hq

theorem sup_method {so : Addr} {name : Str} {id T dT gid : String} {b : Builtin} {pl : Sem Bool} {Q : Value × List Value → Shared → Prop} (g : Gr w h) (hso : h.get? so = some (supObj x)) (hx : h.get? x = some (accObj d xs n))
    (hf : alongIn (Kf w) name [.type "list", .type "object"] = some (some (.builtin id))) (hty : typeOf (.builtin id) = pure (.type dT)) (hsl : Slot dT "__get__" gid) (hent : entryFor table gid = some b) (hargs : argsOk gid ⟨[.builtin id, .ref x, .ref 178], []⟩)
    (hget : ∀ {A : Around} {Q : Fin → Shared → Prop} {E : Value → Shared → Prop}, Q (.done (.ret (.ref h.objs.size))) ⟨h.push (bndObj T id x), gg, dd, t + 1, os⟩ → wpAny (model Pg w) A (b ⟨[.builtin id, .ref x, .ref 178], []⟩) Q E ⟨h, gg, dd, t + 1, os⟩)
    (hxn : x ≠ 178) (hn : (name == ("__class__" : Str)) = false)
    (hq : Q (.ref h.objs.size, []) ⟨h.push (bndObj T id x), gg, dd, t + 1, os⟩) : wpAny (model Pg w) A (getMethod (.ref so) name pl) Q E ⟨h, gg, dd, t, os⟩ := by
  have hlk := PySem.F.ks_slot_super_ga.lookup
  have hcan := PySem.F.ks_canon_super_ga
  have hT : ∀ t', (⟨h, gg, dd, t', os⟩ : Shared).TypeIs (.ref so) "super" := fun _ => ⟨_, hso, rfl⟩
  unfold getMethod
  refine wpAny_bind (wpAny_specialOf (hT _) hlk ?_)
  show wpAny _ _ (if (Manifest.canonical "super.__getattribute__" != "object.__getattribute__") = true then _ else _) _ _ _
  rw [if_pos hcan]
  unfold getAttr getAttrBy
  refine wpAny_bind (wpAny_bind (wpAny_mkText (wpAny_holding (wpAny_bind (wpAny_typeOf (hT _) (wpAny_bind (wpAny_of_eq hlk ?_)))))))
  show wpAny _ _ (getAttrByItsOwn _ _ _ _ _ _) _ _ _
  unfold getAttrByItsOwn hookBefore
  refine wpAny_bind (wpAny_pure (wpAny_bind (wpAny_attempt (wpAny_holding ?_))))
  have e : callGetattribute (.ref so) (.str name t) (.builtin "super.__getattribute__") false = boundAndCalled (.builtin "super.__getattribute__") (.ref so) (.str name t) := by
    unfold callGetattribute
    rw [if_neg]
    simp
  show wpAny _ _ (callGetattribute (.ref so) (.str name t) (.builtin "super.__getattribute__") false) _ _ _
  rw [e]
  unfold boundAndCalled
  rw [PySem.F.ks_slot_super_ga.bind]
  refine wpAny_bind (wpAny_pure ?_)
  refine wpAny_call_entry PySem.F.ks_slot_super_ga (hT _) PySem.F.ks_entry_super_ga ?_ (PySem.F.ks_gaArgs_super _ _)
  refine sup_ga g hso hx hf hty hsl hent hargs hget hxn hn ⟨_, rfl, ?_⟩
  show wpAny _ _ (handedOut (.ref h.objs.size)) _ _ _
  exact wpAny_pure (wpAny_pure hq)
end
end Mine.Internal
end

section
open PySem PySem.W PyProof.Rows PySem.Calls
set_option maxRecDepth 100000
set_option maxHeartbeats 4000000
set_option linter.unusedVariables false
namespace Mine.Internal

theorem enterAt {w : World} {A : Around} {R : Result → Shared → Prop} {s : Shared} {f : Addr} {o : Obj} {fd : FuncData} {body : List Stmt} {args : Args} {binds : List (Str × Value)} (mu : List (Addr × Obj))
    (g : Gr w s.heap) (hm : ∀ p ∈ mu, s.heap.get? p.1 = some p.2 ∧ Fa p.1) (hroom : A.depth < recursionLimit)
    (ho : (KK w.params).lookup f = some o) (hdata : o.data = .func fd) (hbody : fd.body = .stmts body) (hcd : codeIn (Kf w) fd.code fd.qualname = true) (hbind : BindsTo s fd args binds)
    (hcell : (fd.scope.names.all fun x => x.2 != .cell) = true) (hloc : (binds.all fun x => fd.scope.names.lookup x.1 == some .local) = true)
    (hco : fd.scope.isCoroutine = false) (hgen : fd.scope.isGenerator = false) (hk : fd.scope.kind = .function) (hgl : fd.globals = mainGlobals) (hbi : fd.builtins = builtinsNs)
    (h : ∀ h₀ L h₁ env, env = callEnv fd L f → En env L fd.scope.names → Fr h₀ L h₁ (mp binds.reverse) → News h₀ L h₁ mu → Gr w h₀ → (∀ b o, b ∉ mu.map (·.1) → s.heap.get? b = some o → h₀.get? b = some o) →
      (∀ b o, h₀.get? b = some o → s.heap.get? b = some o) → L = s.heap.objs.size →
      _root_.PySem.wpAt (model Pg w) (A.deeper env) (.func body env) (execs body env) (fun fl s' => R (.ok (.ret (match fl with | .ret v => v | _ => .none))) s') (fun _ _ => False) { s with heap := h₁, toks := s.toks + binds.length }) :
    codeAny (model Pg w) A (.call (.ref f) args) R s := by
  refine ks_codeAny_call_defAt (fd := fd) (body := body) (binds := binds) hroom (g.X _ _ ho) hdata g.nolimit (codeRec_of g.X hcd) hbody hbind (fun x hx => ?_) (fun x hx => ?_) (fun h₁ hns hk₁ => ?_) hco hgen hk
  · have := List.all_eq_true.mp hcell x hx
    simpa using this
  · have := List.all_eq_true.mp hloc x hx
    simpa using this
  · have nm : ∀ b o, b ∉ mu.map (·.1) → s.heap.get? b = some o → (hideAll s.heap (mu.map (·.1))).get? b = some o := fun b o hb e => hideAll_get _ e hb
    have gg : Gr w (hideAll s.heap (mu.map (·.1))) := g.keeps fun b o hb e => nm b o (fun q => by
      obtain ⟨p, hp, rfl⟩ := List.mem_map.mp q
      exact hb (hm p hp).2) e
    refine ks_wpAt_mono (h _ _ h₁ _ rfl ⟨hk, rfl, fun _ => rfl, hgl, hbi⟩ ⟨hns, fun b o e => hk₁ b o (of_hideAll _ e), Nat.le_of_eq (hideAll_size _ _)⟩
      (fun p hp => ⟨hk₁ _ _ (hm p hp).1, Nat.ne_of_lt (Heap.lt_size (hm p hp).1), hideAll_none _ (List.mem_map_of_mem hp)⟩) gg nm (fun b o e => of_hideAll _ e) rfl) (fun _ _ z => z) fun _ _ z => z.elim

theorem Gr.fr {w : World} {h₀ h : Heap} {L : Addr} {m : Str → Option Value} (g : Gr w h₀) (F : Fr h₀ L h m) : Gr w h := g.keeps fun b o _ e => F.keep b o e

section
variable {A : Around} {E : Value → Shared → Prop} {w : World} {x d L f : Addr} {xs : List Value} {n : Nat} {s : Shared} {h₀ : Heap} {l : List (Str × Value)} {env : Env} {ks : List (Str × NameKind)}

theorem rSuper {body : List Stmt} {p0 p1 : Pos} {attr : Str} {whole : Sem Value} {o : Obj} {fd : FuncData} {ar : Arg} {c : Addr} {oc : Obj} {vs : Array Value} {tf : Tok} {Q : Value → Shared → Prop}
    (e : En env L ks) (he : env = callEnv fd L f) (g : Gr w s.heap) (F : Fr h₀ L s.heap (mp l)) (hx : s.heap.get? x = some (accObj d xs n)) (hv : l.lookup ar.arg = some (.ref x))
    (ho : (KK w.params).lookup f = some o) (hdata : o.data = .func fd) (hp : (fd.params.posonlyargs ++ fd.params.args).head? = some ar) (hcode : fd.code = .ref c) (hcl : fd.closure = [(("__class__" : Str), 102)])
    (hoc : (KK w.params).lookup c = some oc) (hocd : oc.data = .fields vs) (hvs : vs[2]? = some (.str "/claim/cut.py" tf))
    (hat : (attr == ("__class__" : Str)) = false) (hks : ks.lookup ("super" : Str) = some .globalImplicit) (hkc : ks.lookup ("__class__" : Str) = some .free) (hka : ks.lookup ar.arg = some .local)
    (h : ∀ h', h'.get? s.heap.objs.size = some (supObj x) → (∀ y o, s.heap.get? y = some o → h'.get? y = some o) → Q (.ref s.heap.objs.size) { s with heap := h' }) :
    _root_.PySem.wpAt (model Pg w) A (.func body env) (attributeBase (.Call (.Name "super" p0) [] [] p1) attr env whole) Q E s := by
  obtain ⟨hp', gg, dd, tt, oo⟩ := s
  dsimp only at g F hx h
  have e102 : ((Kf w).lookup 102).map (·.data) = some (.cell (some (.ref 178))) := by kernel_rfl
  obtain ⟨o102, h102, d102⟩ := Option.map_eq_some_iff.mp e102
  obtain ⟨cd, hc, hm⟩ := Option.map_eq_some_iff.mp (mro178 w)
  obtain ⟨oD, hD1, hD2⟩ : ∃ oD, hp'.get? 178 = some oD ∧ oD.data = .cls cd := by
    cases ho : (Kf w).lookup 178 with
    | none => rw [clsIn, ho] at hc; cases hc
    | some o =>
      rw [clsIn, ho] at hc
      obtain ⟨c, d, dt, sl⟩ := o
      cases dt with
      | cls cd' => cases hc; exact ⟨_, g.X _ _ ho, rfl⟩
      | _ => cases hc
  refine ks_wpAt_super_base (env := env) ((e.kinds _).trans hks) ((e.kinds _).trans hkc) hat (f := f) (by rw [he]; rfl) (g.X _ _ ho) hdata hp (cc := c) (by rw [he]; exact hcode) (g.X _ _ hoc) hocd hvs (by kernel_rfl) (by kernel_rfl) ?_
  obtain ⟨mb, hns, hmb⟩ := g.B
  refine ks_loadName_global e.kind ((e.kinds _).trans hks) ?_
  unfold loadGlobal
  rw [e.glob, e.bi]
  have hnone : nsIn (Kf w) mainGlobals "super" = some none := by kernel_rfl
  refine wpAny_bind ((looks_nsIn g.X hnone).at (wpAny_bind (wpAny_nsGet hns ?_)))
  rw [hmb _ (by decide), show bootBuiltins "super" = some (.type "super") from by kernel_rfl]
  refine wpAny_pure ⟨rfl, ?_⟩
  refine wpAny_loadName_free (c := 102) (v := .ref 178) e.kind ((e.kinds _).trans hkc) (by rw [he]; show (fd.closure).lookup _ = _; rw [hcl]; rfl) ⟨o102, g.X _ _ h102, d102⟩ ?_
  refine wpAny_loadName_local e.kind ((e.kinds _).trans hka) (e.loc ▸ F.ns) hv ?_
  refine ks_wpAny_isType_cls hD1 hD2 ⟨rfl, ?_⟩
  have hsub : mroIn (Kf w) 178 (.ref 178) = some true := by kernel_rfl
  refine ks_wpAny_call_super hD1 hD2 hx rfl (fun c e => by cases e) (looks_mroIn g.X hsub) (fun h' e k => h h' e k)
end
end Mine.Internal
end

section
open PySem PySem.W PyProof.Rows PySem.Calls
set_option maxRecDepth 100000
set_option maxHeartbeats 4000000
set_option linter.unusedVariables false
namespace Mine.Internal

structure Go (W : List Addr) (s s' : Shared) : Prop where
  heap : Step W s.heap s'.heap
  gens : AllBare s.gens → AllBare s'.gens
  os : s'.os = s.os

theorem bnd_call {w : World} {A : Around} {s : Shared} {q x : Addr} {T id : String} {b : Builtin} {rest : List Value} {R : Result → Shared → Prop} (hT : T = "builtin_function_or_method" ∨ T = "method-wrapper")
    (hq : s.heap.get? q = some (bndObj T id x)) (hck : ∀ {Q : Unit → Shared → Prop} {E : Value → Shared → Prop}, Q () s → wpAny (model Pg w) A.in1 (checkBoundCall id ⟨.ref x :: rest, []⟩) Q E s) (pl : plainId id = true) (hb : entryFor table id = some b)
    (hc : wpAny (model Pg w) A.in1 (b ⟨.ref x :: rest, []⟩) (fun fin s' => ∃ v, fin = .done (.ret v) ∧ R (.ok (.ret v)) s') (fun e s' => R (.error e) s') s) : codeAny (model Pg w) A (.call (.ref q) ⟨rest, []⟩) R s := by
  refine codeAny_of_tree ?_
  show wpAny _ A.in1 (callAny (.ref q) ⟨rest, []⟩) _ _ _
  unfold callAny
  refine wpAny_bind (wpAny_load hq ?_)
  have e : ((Value.type T == Value.type "method" || Value.type T == Value.type "builtin_function_or_method" || Value.type T == Value.type "method-wrapper") = true) ∧ (Value.type T != Value.type "method") = true := by
    rcases hT with rfl | rfl <;> decide
  dsimp only
  rw [if_pos e.1]
  show wpAny _ _ (if (Value.type T != Value.type "method") = true then _ else _) _ _ _
  rw [if_pos e.2]
  show wpAny _ _ (checkBoundCall id ⟨.ref x :: rest, []⟩ >>= fun _ => again (.builtin id ⟨.ref x :: rest, []⟩)) _ _ _
  refine wpAny_bind (hck (wpAny_pure ⟨plainId_quiet pl _, codeAny_builtin hb ?_⟩))
  rw [Around.under_plainId pl]
  exact wpAny_mono hc (fun fin s' h' => by obtain ⟨v, rfl, hv⟩ := h'; exact hv) fun _ _ h' => h'

theorem Go.refl (s : Shared) : Go [] s s := ⟨Step.refl _, id, rfl⟩

theorem keep_mach {w : World} {q x : Addr} {T id : String} (hT : T = "builtin_function_or_method" ∨ T = "method-wrapper") (h : Heap) (hq : h.get? q = some (bndObj T id x)) :
    ∃ k, (k = Keeper.frame ∨ k = Keeper.machine ∨ k = Keeper.boundFrame) ∧ Looks (model Pg w) h (keeperOf (.ref q)) k := by
  refine ⟨.machine, .inr (.inl rfl), ?_⟩
  unfold keeperOf
  refine (Looks.ld hq).andThen ?_
  rcases hT with rfl | rfl <;> exact .of_pure rfl

theorem part_count_ct {w : World} {A : Around} {R : Result → Shared → Prop} {s : Shared} {x d : Addr} {xs : List Value} {n : Nat} (g : Gr w s.heap) (hx : s.heap.get? x = some (accObj d xs n)) (hxa : x ≠ 178) (hd : A.depth < recursionLimit)
    (ret : ∀ s' tk, Go [] s s' → R (.ok (.ret (.int xs.length tk))) s') : codeAny (model Pg w) A (.call (.ref 175) ⟨[.ref x], []⟩) R s := by
  refine enterAt (binds := [("self", .ref x)]) [] g (by first | exact nilT | exact nil1 | k_mem | simp) hd (by k_is) rfl rfl (by kernel_rfl) (BindsTo.of_eq (by kernel_rfl)) (by kernel_rfl) (by kernel_rfl) rfl rfl rfl rfl rfl fun h₀ L h₁ env he e F N g₀ hk hk' hL => ?_
  have hx₁ := F.keep _ _ (hk _ _ (by first | exact nilT | exact nil1 | k_mem | simp) hx)
  refine ks_wpAt_execs_cons (ks_wpAt_Return_some (ks_wpAt_MethodCall (rSuper e he (g₀.fr F) F hx₁ (by kernel_rfl) (by k_is) rfl rfl rfl rfl (by k_is) rfl rfl (by kernel_rfl) (by kernel_rfl) (by kernel_rfl) (by kernel_rfl) fun h₂ hs₂ k₂ => ?_)))
  have g₂ : Gr w h₂ := (g₀.fr F).keeps fun b o _ q => k₂ b o q
  refine sup_method (h := h₂) g₂ hs₂ (k₂ _ _ hx₁) (id := "list.__len__") (by kernel_rfl) ty_len wd_slot wd_entry (wd_args _ _ _) (fun q => wd_get g₂ (k₂ _ _ hx₁) (by decide +kernel) q) hxa (by kernel_rfl) ?_
  have hb₃ : (h₂.push (bndObj "method-wrapper" "list.__len__" x)).get? h₂.objs.size = some (bndObj "method-wrapper" "list.__len__" x) := Heap.get?_push_size _ rfl
  have hx₃ := Heap.get?_push_of_some (bndObj "method-wrapper" "list.__len__" x) (k₂ _ _ hx₁)
  refine callWith_of (P := fun h => h.get? h₂.objs.size = some (bndObj "method-wrapper" "list.__len__" x)) rfl (fun h q => keep_mach (.inr rfl) h q) (evalArgs_nil3 ⟨hb₃, ?_⟩)
  refine wpAny_call (bnd_call (.inr rfl) hb₃ (fun q => wpAny_of_eq (by kernel_rfl) q) (by decide +kernel) entry_list_len ?_)
  show wpAny _ _ (do retInt (← seqSize x)) _ _ _
  unfold seqSize
  refine wpAny_bind (wpAny_bind (wpAny_loadPart hx₃ (wpAny_pure (wpAny_bind (wpAny_mkInt (wpAny_pure ⟨_, rfl, ?_⟩))))))
  rw [List.size_toArray]
  refine ret _ _ ⟨⟨fun b o _ q => Heap.get?_push_of_some _ (k₂ _ _ (F.keep _ _ (hk _ _ (by first | exact nilT | exact nil1 | k_mem | simp) q)))⟩, id, rfl⟩
end Mine.Internal
end

section
open PySem PySem.W PyProof.Rows PySem.Calls
set_option maxRecDepth 100000
set_option maxHeartbeats 4000000
set_option linter.unusedVariables false
namespace Mine.Internal

noncomputable abbrev tupObj (f p : Str) (t1 t2 : Tok) : Obj := { cls := .type "tuple", data := .seq [Value.str f t1, Value.str p t2].toArray }

theorem keep_bui {w : World} {id : String} (h : Heap) (_ : True) : ∃ k, (k = Keeper.frame ∨ k = Keeper.machine ∨ k = Keeper.boundFrame) ∧ Looks (model Pg w) h (keeperOf (.builtin id)) k :=
  ⟨.machine, .inr (.inl rfl), .of_pure rfl⟩

theorem rArgs {M : Model} {A : Around} {E : Value → Shared → Prop} {s : Shared} {env : Env} {P : Heap → Prop} {f : Value} {first : List Value} {e : Expr} {rest : List Expr} {pos : Pos} {Q : Value → Shared → Prop}
    (hk : ∀ h, P h → ∃ k, (k = Keeper.frame ∨ k = Keeper.machine ∨ k = Keeper.boundFrame) ∧ Looks M h (keeperOf f) k)
    (h : wpAny M A (spliced (backTo pos (starEach (e :: rest) env))) (fun vs s₁ => P s₁.heap ∧ wpAny M A (call f (first ++ vs)) Q E s₁) E s)
    (he : starEach (e :: rest) env = (false, eval e env) :: starEach rest env := by rfl) (hplain : (backTo pos (starEach rest env)).any (·.1) = false := by rfl) :
    wpAny M A (callWith pos f first (backTo pos (starEach (e :: rest) env)) (backToKw pos (keywordEach [] env))) Q E s := by
  rw [he] at h ⊢
  exact callWith_of (by show ((false || (backTo pos (starEach rest env)).any (·.1)) || false) = false; rw [hplain]; rfl) hk (evalArgs_plain h)

theorem push_ct {w : World} {A : Around} {R : Result → Shared → Prop} {s : Shared} {x d : Addr} {xs : List Value} {n : Nat} {od : Obj} {f p : Str} {t1 t2 : Tok} (g : Gr w s.heap) (hx : s.heap.get? x = some (accObj d xs n)) (hd : s.heap.get? d = some od) (hxd : d ≠ x) (hfx : Fa x)
    (hl : lookIn "append" od = some none) (hz : xs.length < 1000) (hA : A.depth < recursionLimit)
    (ret : ∀ s' n' t, Go [x] s s' → s'.heap.get? x = some (accObj d (xs ++ [.ref t]) n') → s'.heap.get? t = some (tupObj f p t1 t2) → s.heap.get? t = none → R (.ok (.ret .none)) s') :
    codeAny (model Pg w) A (.call (.ref 122) ⟨[.ref x, .str f t1, .str p t2], []⟩) R s := by
  refine enter (binds := [("self", .ref x), ("fws", .str f t1), ("string", .str p t2)]) [(x, accObj d xs n)] g (in1 ⟨hx, hfx⟩) hA (by k_is) rfl rfl (by kernel_rfl) (BindsTo.of_eq (by kernel_rfl)) (by kernel_rfl) (by kernel_rfl) rfl rfl rfl rfl rfl fun h₀ L h₁ env he e F N g₀ hk hk' hL => ?_
  have hx₁ := (N _ (List.mem_singleton.mpr rfl)).1
  have hd₁ := F.keep _ _ (hk d _ (by first | exact one1 (hxd) | simpa using hxd) hd)
  refine wpAny_execs_cons (wpAny_Expr (methodCall_KW (kws := []) (rLoc e F (v := .ref x) (by kernel_rfl) (acc_getMethod (g₀.fr F) hx₁ hd₁ (f := .builtin "list.append") (tf := .type "method_descriptor") (by kernel_rfl) (by kernel_rfl) (by decide) hl ?_))) e.inter)
  refine rArgs (P := fun _ => True) (fun h q => keep_bui h q) ?_
  refine wpAny_items_cons (wpAny_Tuple (wpAny_items_cons (rLoc e F (v := .str f t1) (by kernel_rfl) (wpAny_items_cons (rLoc e F (v := .str p t2) (by kernel_rfl) (wpAny_items_nil ⟨(by first | exact Nat.le_of_ble_eq_true rfl | simp [sizeLine]), wpAny_items_nil ⟨trivial, ?_⟩⟩))))))
  have hx₂ := Heap.get?_push_of_some (tupObj f p t1 t2) hx₁
  refine acc_append (s := { s with heap := h₁.push (tupObj f p t1 t2), toks := _ }) ((g₀.fr F).keeps fun b o _ q => Heap.get?_push_of_some _ q) hx₂ hz fun h₃ n₃ e₃ s₃ => wpAny_execs_nil ?_
  have hne : h₁.objs.size ≠ x := Nat.ne_of_gt (Heap.lt_size hx₁)
  refine ret _ n₃ h₁.objs.size ⟨⟨fun b o hb q => ?_⟩, id, rfl⟩ e₃ ?_ ?_
  · have hb' : b ≠ x := by simpa using hb
    exact s₃.extBut b o hb' (Heap.get?_push_of_some _ (F.keep _ _ (hk _ _ (by first | exact one1 (hb') | simpa using hb') q)))
  · exact s₃.extBut _ _ hne (Heap.get?_push_size _ rfl)
  · cases q : s.heap.get? h₁.objs.size with
    | none => rfl
    | some o =>
      have := Heap.lt_size (F.keep _ _ (hk _ _ (by first | exact one1 (hne) | simpa using hne) q))
      exact absurd this (Nat.lt_irrefl _)
end Mine.Internal
end

section
open PySem PySem.W PyProof.Rows PySem.Calls
set_option maxRecDepth 100000
set_option maxHeartbeats 4000000
set_option linter.unusedVariables false
namespace Mine.Internal

theorem frGo {h₀ h h' : Heap} {L : Addr} {m : Str → Option Value} {W : List Addr} (F : Fr h₀ L h m) (st : Step W h h') (hL : L ∉ W) (hW : ∀ a ∈ W, h₀.get? a = none) : Fr h₀ L h' m := by
  obtain ⟨o, es, ep, e, r⟩ := F.ns
  exact ⟨⟨o, es, ep, st.keep _ _ hL e, r⟩, fun b o q => st.keep _ _ (fun z => by rw [hW b z] at q; cases q) (F.keep b o q), F.above⟩
theorem newsGo {h₀ h h' : Heap} {L : Addr} {mu : List (Addr × Obj)} {W : List Addr} (N : News h₀ L h mu) (st : Step W h h') (hW : ∀ p ∈ mu, p.1 ∉ W) : News h₀ L h' mu :=
  fun p hp => ⟨st.keep _ _ (hW p hp) (N p hp).1, (N p hp).2⟩

theorem if_ff {a b : Prop} (h : b) : if false = true then a else b := by simpa using h
theorem if_tt {a b : Prop} (h : a) : if true = true then a else b := by simpa using h

theorem sig_pop : Manifest.signature? "list.pop" = some ⟨.positional, "list.pop", "pop", .self, [⟨"index", .posOnly, false⟩]⟩ := by
  rw [signature?_of (id := "list.pop") (n := ['p', 'o', 'p']) (o := ['t', 's', 'i', 'l']) (by kernel_rfl) PySem.F.owner_list]
  kernel_rfl
theorem pop_args (v : Value) (full : String) (h : (full != "*") = true) : Bind.checkArgs "list.pop" ⟨.positional, full, "pop", .self, [⟨"index", .posOnly, false⟩]⟩ ⟨[v], []⟩ = pure () := by
  unfold Bind.checkArgs Bind.printed
  generalize (full != "*") = b at h ⊢
  subst h
  kernel_rfl

theorem ck_pop {w : World} {A : Around} {s : Shared} {x d : Addr} {xs : List Value} {n : Nat} {Q : Unit → Shared → Prop} {E : Value → Shared → Prop} (g : Gr w s.heap) (hx : s.heap.get? x = some (accObj d xs n)) (q : Q () s) :
    wpAny (model Pg w) A (checkBoundCall "list.pop" ⟨[.ref x], []⟩) Q E s := by
  obtain ⟨hp, gg, dd, tt, oo⟩ := s
  dsimp only at g hx
  have hm : mroIn (Kf w) 178 (.type "module") = some false := by kernel_rfl
  have ht : typeIn (Kf w) (.ref 178) = some (.type "type") := by kernel_rfl
  obtain ⟨cd, hc, _⟩ := Option.map_eq_some_iff.mp (mro178 w)
  unfold checkBoundCall
  have hq : (clsIn (Kf w) 178).map (·.qualname) = some "_Accumulator" := by kernel_rfl
  rw [hc] at hq
  rw [sig_pop]
  have hk : builtinKind "list.pop" = some .method := by decide +kernel
  dsimp only
  rw [hk]
  dsimp only
  rw [if_neg (by decide)]
  have L1 : Looks (model Pg w) hp (isInstance (.ref x) (.type "module")) false := ((Looks.ld hx).andThen .now : Looks (model Pg w) hp (typeOf (.ref x)) (.ref 178)).andThen (looks_mroIn g.X hm)
  refine wpAny_bind (L1.at ?_)
  rw [if_neg (by decide +kernel)]
  refine wpAny_bind (ks_wpAny_isType_inst hx (fun c e => by cases e) ?_)
  rw [if_neg (by decide)]
  refine wpAny_bind (((Looks.ld hx).andThen .now : Looks (model Pg w) hp (typeOf (.ref x)) (.ref 178)).at ?_)
  refine wpAny_bind ((looks_clsIn g.X hc).at (wpAny_bind ((looks_typeIn g.X ht).at ?_)))
  rw [if_pos (by decide), pop_args _ _ (by rw [show cd.qualname = ("_Accumulator" : Str) from Option.some.inj hq]; decide +kernel)]
  exact wpAny_pure q

theorem pop_ct {w : World} {A : Around} {R : Result → Shared → Prop} {s : Shared} {x d : Addr} {ys : List Value} {v : Value} {n : Nat} {od : Obj} (g : Gr w s.heap) (hx : s.heap.get? x = some (accObj d (ys ++ [v]) n)) (hd : s.heap.get? d = some od) (hxd : d ≠ x) (hfx : Fa x) (hxa : x ≠ 178)
    (hl : lookIn "part_count" od = some none) (hz : ys.length < 1000) (hA : A.depth + 1 < recursionLimit)
    (ret : ∀ s' n', Go [x] s s' → s'.heap.get? x = some (accObj d ys n') → R (.ok (.ret v)) s') :
    codeAny (model Pg w) A (.call (.ref 138) ⟨[.ref x], []⟩) R s := by
  refine enterAt (binds := [("self", .ref x)]) [(x, accObj d (ys ++ [v]) n)] g (in1 ⟨hx, hfx⟩) (by (first | with_reducible exact om_lt (by assumption) | omega)) (by k_is) rfl rfl (by kernel_rfl) (BindsTo.of_eq (by kernel_rfl)) (by kernel_rfl) (by kernel_rfl) rfl rfl rfl rfl rfl fun h₀ L h₁ env he e F N g₀ hk hk' hL => ?_
  have hx₁ := (N _ (List.mem_singleton.mpr rfl)).1
  have hd₁ := F.keep _ _ (hk d _ (by first | exact one1 (hxd) | simpa using hxd) hd)
  refine ks_wpAt_execs_cons (ks_wpAt_If (wpAt_of_wpAny (wpAny_isTrue_Compare1 (methodCall_KW (kws := []) (rLoc e F (v := .ref x) (by kernel_rfl) (acc_getMethod (g₀.fr F) hx₁ hd₁ (f := .ref 175) (tf := .type "function") (by kernel_rfl) (by kernel_rfl) (by decide) hl ?_))))))
  refine callWith_K0 (K := Kf w) (g₀.fr F).X (by kernel_rfl) (wpAny_call (part_count_ct (g₀.fr F) hx₁ hxa (by show A.depth + 1 < _; (first | with_reducible assumption | omega)) fun s₂ tk₂ go₂ => ?_))
  refine wpAny_Constant_int (PyProof.Rows.eq_int (wpAny_truthy_bool ?_))
  have hne : (((ys ++ [v]).length : Int) == 0) = false := by
    simp only [List.length_append, List.length_singleton, beq_eq_false_iff_ne, ne_eq]; omega
  rw [hne]
  refine if_ff (wpAt_of_wpAny (wpAny_execs_nil ?_))
  have F₂ := frGo F go₂.heap (by first | exact nilT | exact nil1 | k_mem | simp) (by first | exact nilT | exact nil1 | k_mem | simp)
  have hx₂ := go₂.heap.keep _ _ (by first | exact nilT | exact nil1 | k_mem | simp) hx₁
  refine ks_wpAt_execs_cons (ks_wpAt_Return_some (ks_wpAt_MethodCall (rSuper e he (g₀.fr F₂) F₂ hx₂ (by kernel_rfl) (by k_is) rfl rfl rfl rfl (by k_is) rfl rfl (by kernel_rfl) (by kernel_rfl) (by kernel_rfl) (by kernel_rfl) fun h₃ hs₃ k₃ => ?_)))
  have g₃ : Gr w h₃ := (g₀.fr F₂).keeps fun b o _ q => k₃ b o q
  refine sup_method (h := h₃) g₃ hs₃ (k₃ _ _ hx₂) (id := "list.pop") (by kernel_rfl) ty_pop md_slot md_entry (md_args _ _ _) (fun q => md_get g₃ (k₃ _ _ hx₂) (by decide +kernel) (by decide +kernel) q) hxa (by kernel_rfl) ?_
  have hb₄ : (h₃.push (bndObj "builtin_function_or_method" "list.pop" x)).get? h₃.objs.size = some (bndObj "builtin_function_or_method" "list.pop" x) := Heap.get?_push_size _ rfl
  have hx₄ := Heap.get?_push_of_some (bndObj "builtin_function_or_method" "list.pop" x) (k₃ _ _ hx₂)
  refine callWith_of (P := fun h => h.get? h₃.objs.size = some (bndObj "builtin_function_or_method" "list.pop" x)) rfl (fun h q => keep_mach (.inl rfl) h q) (evalArgs_nil3 ⟨hb₄, ?_⟩)
  refine wpAny_call (bnd_call (.inl rfl) hb₄ (fun q => ck_pop (g₃.keeps fun b o _ q => Heap.get?_push_of_some _ q) hx₄ q) (by decide +kernel) PySem.F.entry_list_pop ?_)
  refine acc_pop_body hx₄ hz fun h₅ n₅ e₅ s₅ => ⟨v, rfl, ret _ n₅ ⟨⟨fun b o hb q => ?_⟩, fun q => go₂.gens q, go₂.os⟩ e₅⟩
  have hb' : b ≠ x := by simpa using hb
  exact s₅.extBut b o hb' (Heap.get?_push_of_some _ (k₃ _ _ (go₂.heap.keep _ _ (by first | exact nilT | exact nil1 | k_mem | simp) (F.keep _ _ (hk _ _ (by first | exact one1 (hb') | simpa using hb') q)))))
end Mine.Internal
end

section
open PySem PySem.W PyProof.Rows PySem.Calls
set_option maxRecDepth 100000
set_option maxHeartbeats 4000000
set_option linter.unusedVariables false
namespace Mine.Internal

noncomputable abbrev aDict (hs : Int) (tk : Tok) (i : Int) (ti : Tok) (k : Nat) : Obj := dictOf [⟨hs, .str "_initial_size" tk, .int i ti⟩] k
noncomputable abbrev lstObj (xs : List Value) (n : Nat) : Obj := { cls := .type "list", data := .seq xs.toArray n }
noncomputable abbrev slcObj (a b c : Value) : Obj := { cls := .type "slice", data := .fields #[a, b, c] }

theorem evalPart_s {M : Model} {A : Around} {E : Value → Shared → Prop} {s : Shared} {e : Expr} {env : Env} {Q : Value → Shared → Prop} (h : wpAny M A (eval e env) Q E s) : wpAny M A (evalPart (some e) env) Q E s := h
theorem evalPart_n {M : Model} {A : Around} {E : Value → Shared → Prop} {s : Shared} {env : Env} {Q : Value → Shared → Prop} (h : Q .none s) : wpAny M A (evalPart none env) Q E s := wpAny_pure h

theorem pop_from_ct {w : World} {A : Around} {R : Result → Shared → Prop} {s : Shared} {x d : Addr} {xs : List Value} {n k : Nat} {tk : Tok} (g : Gr w s.heap) (hx : s.heap.get? x = some (accObj d xs n)) (hfx : Fa x)
    (hk : k ≤ xs.length) (hz : xs.length ≤ 500) (hA : A.depth < recursionLimit)
    (ret : ∀ s' n' l, Go [x] s s' → s'.heap.get? x = some (accObj d (xs.take k) n') → s'.heap.get? l = some (lstObj (xs.drop k) 0) → s.heap.get? l = none → R (.ok (.ret (.ref l))) s') :
    codeAny (model Pg w) A (.call (.ref 130) ⟨[.ref x, .int k tk], []⟩) R s := by
  refine enter (binds := [("self", .ref x), ("i", .int k tk)]) [(x, accObj d xs n)] g (in1 ⟨hx, hfx⟩) hA (by k_is) rfl rfl (by kernel_rfl) (binds_K (K := KK w.params) g.X rfl (by k_is) rfl rfl rfl) (by kernel_rfl) (by kernel_rfl) rfl rfl rfl rfl rfl fun h₀ L h₁ env he e F N g₀ hkp hk' hL => ?_
  refine wpAny_execs_cons (wpAny_Assign_Name (Subscript_ (rLoc e F (v := .ref x) (by kernel_rfl) (wpAny_Slice (evalPart_s (rLoc e F (v := .int k tk) (by kernel_rfl) (evalPart_n (evalPart_n ?_))))))))
  have F₂ := F.push (slcObj (.int k tk) .none .none)
  have N₂ := N.push F (slcObj (.int k tk) .none .none)
  have hx₂ := (N₂ (x, accObj d xs n) (by first | exact nilT | exact nil1 | k_mem | simp)).1
  have hs₂ := (N₂ (_, slcObj (.int k tk) .none .none) (List.mem_cons_self ..)).1
  refine acc_tail (g₀.fr F₂) hx₂ (acc_from (g₀.fr F₂) hx₂ hs₂ hk (by (first | with_reducible exact Nat.le_trans (by assumption) (by decide) | omega)) ?_) ⟨_, rfl⟩
  have F₃ := F₂.push (lstObj (xs.drop k) 0)
  have N₃ := N₂.push F₂ (lstObj (xs.drop k) 0)
  have hfresh : s.heap.get? (h₁.push (slcObj (.int k tk) .none .none)).objs.size = none := by
    cases q : s.heap.get? (h₁.push (slcObj (.int k tk) .none .none)).objs.size with
    | none => rfl
    | some o =>
      have h1 := Heap.lt_size q
      have h2 : s.heap.objs.size < h₁.objs.size := by
        obtain ⟨oL, es, ep, hL', _⟩ := F.ns
        rw [← hL]
        exact Heap.lt_size hL'
      rw [Heap.size_push] at h1
      exact absurd (Nat.lt_trans h2 (Nat.lt_of_succ_lt h1)) (Nat.lt_irrefl _)
  refine rSto e F₃ N₃ fun h₄ F₄ N₄ => ?_
  refine wpAny_execs_cons (wpAny_Assign_Subscript (wpAny_List (wpAny_items_nil ⟨(by first | exact Nat.le_of_ble_eq_true rfl | simp [sizeLine]), ?_⟩)))
  have F₅ := F₄.push (lstObj [] 0)
  have N₅ := N₄.push F₄ (lstObj [] 0)
  refine rLoc e F₅ (v := .ref x) (by kernel_rfl) (wpAny_Slice (evalPart_s (rLoc e F₅ (v := .int k tk) (by kernel_rfl) (evalPart_n (evalPart_n ?_)))))
  have F₆ := F₅.push (slcObj (.int k tk) .none .none)
  have N₆ := N₅.push F₅ (slcObj (.int k tk) .none .none)
  have hx₆ := (N₆ (x, accObj d xs n) (by first | exact nilT | exact nil1 | k_mem | simp)).1
  have hl₆ := (N₆ (_, lstObj [] 0) (List.mem_cons_of_mem _ (List.mem_cons_self ..))).1
  have hs₆ := (N₆ (_, slcObj (.int k tk) .none .none) (List.mem_cons_self ..)).1
  have hx₄ := (N₄ (x, accObj d xs n) (by first | exact nilT | exact nil1 | k_mem | simp)).1
  refine acc_setItem (k := k) (lo := some (k : Int)) (ys := []) (g₀.fr F₆) hx₆ hs₆ (.int k tk) (.inl rfl) hk hl₆ (Nat.ne_of_lt (Heap.lt_size hx₄)) hz (by first | exact nilT | exact nil1 | k_mem | simp) fun h₇ n₇ e₇ s₇ => ?_
  have hla' := (N₆ ((h₁.push (slcObj (.int k tk) .none .none)).objs.size, lstObj (xs.drop k) 0) (by first | exact nilT | exact nil1 | k_mem | simp)).1
  have hne : (h₁.push (slcObj (.int k tk) .none .none)).objs.size ≠ x := by
    intro q
    rw [q, hx] at hfresh
    cases hfresh
  have hLx : L ≠ x := by
    intro q
    rw [← q, hL] at hx
    exact absurd (Heap.lt_size hx) (Nat.lt_irrefl _)
  have F₇ : Fr h₀ L h₇ _ := frGo F₆ (W := [x]) ⟨fun b o hb q => s₇.extBut b o (by first | exact one1 (hb) | simpa using hb) q⟩ (by first | exact one1 (hLx) | simpa using hLx) (by simp; exact (N _ (List.mem_singleton.mpr rfl)).2.2)
  refine wpAny_execs_cons (wpAny_Return_some (rLoc e F₇ (v := .ref (h₁.push (slcObj (.int k tk) .none .none)).objs.size) (by kernel_rfl) ?_))
  rw [List.append_nil] at e₇
  refine ret _ n₇ (h₁.push (slcObj (.int k tk) .none .none)).objs.size ⟨⟨fun b o hb q => ?_⟩, id, rfl⟩ e₇ (s₇.extBut _ _ hne hla') hfresh
  exact F₇.keep _ _ (hkp _ _ (by first | exact one1 (hb) | simpa using hb) q)
end Mine.Internal
end

section
open PySem PySem.W PyProof.Rows PySem.Calls
set_option maxRecDepth 100000
set_option maxHeartbeats 4000000
set_option linter.unusedVariables false
namespace Mine.Internal

theorem newsUpd {h₀ h h' : Heap} {L a : Addr} {o o' : Obj} {r : List (Addr × Obj)} (N : News h₀ L h ((a, o) :: r)) (e : h'.get? a = some o') (sb : Heap.SameBut a h h') (hr : ∀ p ∈ r, p.1 ≠ a) : News h₀ L h' ((a, o') :: r) := by
  intro p hp
  rcases List.mem_cons.mp hp with rfl | hp
  · exact ⟨e, (N (a, o) (List.mem_cons_self ..)).2⟩
  · exact ⟨sb.extBut _ _ (hr p hp) (N p (List.mem_cons_of_mem _ hp)).1, (N p (List.mem_cons_of_mem _ hp)).2⟩
theorem frSame {h₀ h h' : Heap} {L a : Addr} {m : Str → Option Value} (F : Fr h₀ L h m) (sb : Heap.SameBut a h h') (hL : a ≠ L) (ha : h₀.get? a = none) : Fr h₀ L h' m :=
  frGo F (W := [a]) ⟨fun b o hb q => sb.extBut b o (by first | exact one1 (hb) | simpa using hb) q⟩ (by first | exact one1 (Ne.symm hL) | simpa using Ne.symm hL) (by first | exact one1 (ha) | simpa using ha)
theorem newsSub {h₀ h : Heap} {L : Addr} {l l' : List (Addr × Obj)} (N : News h₀ L h l) (hs : ∀ p ∈ l', p ∈ l) : News h₀ L h l' := fun p hp => N p (hs p hp)

section
variable {w : World} {A : Around} {R : Result → Shared → Prop} {s : Shared} {x d l : Addr} {xs ys : List Value} {n n2 k : Nat} {hs i : Int} {tk ti : Tok}

theorem acc_setInit {E : Value → Shared → Prop} {v : Value} {Q : Unit → Shared → Prop} (g : Gr w s.heap) (hx : s.heap.get? x = some (accObj d xs n)) (hd : s.heap.get? d = some (aDict hs tk i ti k))
    (h : ∀ h', h'.get? d = some (dictOf [⟨hs, .str "_initial_size" tk, v⟩] k) → Heap.SameBut d s.heap h' → Q () { s with heap := h', toks := s.toks + 2 }) : wpAny (model Pg w) A (setAttr (.ref x) "_initial_size" v) Q E s :=
  acc_setAttr g hx hd (by kernel_rfl) (by kernel_rfl) (es' := [⟨hs, .str "_initial_size" tk, v⟩]) (k' := k) (by kernel_rfl) (by first | exact nilT | exact nil1 | k_mem | simp) h

theorem reset1_ct (g : Gr w s.heap) (hx : s.heap.get? x = some (accObj d xs n)) (hd : s.heap.get? d = some (aDict hs tk i ti k)) (hl : s.heap.get? l = some (lstObj ys n2)) (hfx : Fa x) (hfd : Fa d) (hxd : x ≠ d) (hlx : l ≠ x) (hld : l ≠ d)
    (hz : xs.length ≤ 500) (hz' : ys.length ≤ 500) (hA : A.depth < recursionLimit)
    (ret : ∀ s' n' ti', Go [x, d] s s' → s'.heap.get? x = some (accObj d ys n') → s'.heap.get? d = some (aDict hs tk 0 ti' k) → R (.ok (.ret .none)) s') :
    codeAny (model Pg w) A (.call (.ref 160) ⟨[.ref x, .ref l], []⟩) R s := by
  refine enter (binds := [("self", .ref x), ("startval", .ref l)]) [(x, accObj d xs n), (d, aDict hs tk i ti k)] g (in2 ⟨hx, hfx⟩ ⟨hd, hfd⟩) hA (by k_is) rfl rfl (by kernel_rfl) (binds_K (K := KK w.params) g.X rfl (by k_is) rfl rfl rfl) (by kernel_rfl) (by kernel_rfl) rfl rfl rfl rfl rfl fun h₀ L h₁ env he e F N g₀ hkp hk' hL => ?_
  refine wpAny_execs_cons (wpAny_If (wpAny_isTrue_Compare1 (rLoc e F (v := .ref l) (by kernel_rfl) (wpAny_Constant_none (is_none (wpAny_truthy_bool (if_ff (wpAny_execs_nil ?_))))))))
  have hl₁ := F.keep _ _ (hkp l _ (nin2 hlx hld) hl)
  have hx₁ := (N (x, accObj d xs n) (by first | exact nilT | exact nil1 | k_mem | simp)).1
  have hd₁ := (N (d, aDict hs tk i ti k) (by first | exact nilT | exact nil1 | k_mem | simp)).1
  refine wpAny_execs_cons (wpAny_Assign_Subscript (rLoc e F (v := .ref l) (by kernel_rfl) (rLoc e F (v := .ref x) (by kernel_rfl) (wpAny_Slice (evalPart_n (evalPart_n (evalPart_n ?_)))))))
  have F₂ := F.push (slcObj .none .none .none)
  have N₂ := N.push F (slcObj .none .none .none)
  have hx₂ := (N₂ (x, accObj d xs n) (by first | exact nilT | exact nil1 | k_mem | simp)).1
  have hs₂ := (N₂ (_, slcObj .none .none .none) (List.mem_cons_self ..)).1
  refine acc_setItem (k := 0) (lo := none) (ys := ys) (g₀.fr F₂) hx₂ hs₂ .none (.inr ⟨rfl, rfl⟩) (by first | exact nilT | exact nil1 | k_mem | simp) (F₂.keep _ _ (hkp l _ (nin2 hlx hld) hl)) (Ne.symm hlx) hz hz' fun h₃ n₃ e₃ s₃ => ?_
  rw [List.take_zero, List.nil_append] at e₃
  have fx := (N (x, accObj d xs n) (by first | exact nilT | exact nil1 | k_mem | simp)).2
  have fd := (N (d, aDict hs tk i ti k) (by first | exact nilT | exact nil1 | k_mem | simp)).2
  have F₃ := frSame F₂ s₃ fx.1 fx.2
  have hd₃ : h₃.get? d = some (aDict hs tk i ti k) := s₃.extBut _ _ (Ne.symm hxd) ((N₂ (d, aDict hs tk i ti k) (by first | exact nilT | exact nil1 | k_mem | simp)).1)
  refine wpAny_execs_cons (plainObj_wpAny_Assign_Attribute (wpAny_Constant_int (rLoc e F₃ (v := .ref x) (by kernel_rfl) ?_)))
  refine acc_setInit (g₀.fr F₃) e₃ hd₃ fun h₄ e₄ s₄ => wpAny_execs_nil ?_
  refine ret _ n₃ _ ⟨⟨fun b o hb q => ?_⟩, id, rfl⟩ (s₄.extBut _ _ hxd e₃) e₄
  have hb' : b ≠ x ∧ b ≠ d := ni2 hb
  exact s₄.extBut _ _ hb'.2 (F₃.keep _ _ (hkp _ _ (by first | exact one1 (hb') | simpa using hb') q))

theorem reset0_ct (g : Gr w s.heap) (hx : s.heap.get? x = some (accObj d xs n)) (hd : s.heap.get? d = some (aDict hs tk i ti k)) (hfx : Fa x) (hfd : Fa d) (hxd : x ≠ d)
    (hz : xs.length ≤ 500) (hA : A.depth < recursionLimit)
    (ret : ∀ s' n' ti', Go [x, d] s s' → s'.heap.get? x = some (accObj d [] n') → s'.heap.get? d = some (aDict hs tk 0 ti' k) → R (.ok (.ret .none)) s') :
    codeAny (model Pg w) A (.call (.ref 160) ⟨[.ref x], []⟩) R s := by
  refine enter (binds := [("self", .ref x), ("startval", .none)]) [(x, accObj d xs n), (d, aDict hs tk i ti k)] g (in2 ⟨hx, hfx⟩ ⟨hd, hfd⟩) hA (by k_is) rfl rfl (by kernel_rfl) (binds_K (K := KK w.params) g.X rfl (by k_is) rfl rfl rfl) (by kernel_rfl) (by kernel_rfl) rfl rfl rfl rfl rfl fun h₀ L h₁ env he e F N g₀ hkp hk' hL => ?_
  refine wpAny_execs_cons (wpAny_If (wpAny_isTrue_Compare1 (rLoc e F (v := .none) (by kernel_rfl) (wpAny_Constant_none (is_none (wpAny_truthy_bool (if_tt ?_)))))))
  refine wpAny_execs_cons (wpAny_Assign_Name (wpAny_List (wpAny_items_nil ⟨(by first | exact Nat.le_of_ble_eq_true rfl | simp [sizeLine]), ?_⟩)))
  have Fa1 := F.push (lstObj [] 0)
  have Na1 := N.push F (lstObj [] 0)
  refine rSto e Fa1 Na1 fun h₂ Fb Nb => wpAny_execs_nil ?_
  have hx₁ := (Nb (x, accObj d xs n) (by first | exact nilT | exact nil1 | k_mem | simp)).1
  have hd₁ := (Nb (d, aDict hs tk i ti k) (by first | exact nilT | exact nil1 | k_mem | simp)).1
  have hlx : h₁.objs.size ≠ x := Nat.ne_of_gt (Heap.lt_size (N (x, accObj d xs n) (by first | exact nilT | exact nil1 | k_mem | simp)).1)
  refine wpAny_execs_cons (wpAny_Assign_Subscript (rLoc e Fb (v := .ref h₁.objs.size) (by kernel_rfl) (rLoc e Fb (v := .ref x) (by kernel_rfl) (wpAny_Slice (evalPart_n (evalPart_n (evalPart_n ?_)))))))
  have F₂ := Fb.push (slcObj .none .none .none)
  have N₂ := Nb.push Fb (slcObj .none .none .none)
  have hx₂ := (N₂ (x, accObj d xs n) (by first | exact nilT | exact nil1 | k_mem | simp)).1
  have hs₂ := (N₂ (_, slcObj .none .none .none) (List.mem_cons_self ..)).1
  have hl₂ := (N₂ (h₁.objs.size, lstObj [] 0) (by first | exact nilT | exact nil1 | k_mem | simp)).1
  refine acc_setItem (k := 0) (lo := none) (ys := []) (g₀.fr F₂) hx₂ hs₂ .none (.inr ⟨rfl, rfl⟩) (by first | exact nilT | exact nil1 | k_mem | simp) hl₂ (Ne.symm hlx) hz (by first | exact nilT | exact nil1 | k_mem | simp) fun h₃ n₃ e₃ s₃ => ?_
  rw [List.take_zero, List.nil_append] at e₃
  have fx := (N (x, accObj d xs n) (by first | exact nilT | exact nil1 | k_mem | simp)).2
  have fd := (N (d, aDict hs tk i ti k) (by first | exact nilT | exact nil1 | k_mem | simp)).2
  have F₃ := frSame F₂ s₃ fx.1 fx.2
  have hd₃ : h₃.get? d = some (aDict hs tk i ti k) := s₃.extBut _ _ (Ne.symm hxd) ((N₂ (d, aDict hs tk i ti k) (by first | exact nilT | exact nil1 | k_mem | simp)).1)
  refine wpAny_execs_cons (plainObj_wpAny_Assign_Attribute (wpAny_Constant_int (rLoc e F₃ (v := .ref x) (by kernel_rfl) ?_)))
  refine acc_setInit (g₀.fr F₃) e₃ hd₃ fun h₄ e₄ s₄ => wpAny_execs_nil ?_
  refine ret _ n₃ _ ⟨⟨fun b o hb q => ?_⟩, id, rfl⟩ (s₄.extBut _ _ hxd e₃) e₄
  have hb' : b ≠ x ∧ b ≠ d := ni2 hb
  exact s₄.extBut _ _ hb'.2 (F₃.keep _ _ (hkp _ _ (by first | exact one1 (hb') | simpa using hb') q))
end
end Mine.Internal
end

section
open PySem PySem.W PyProof.Rows PySem.Calls
set_option maxRecDepth 100000
set_option maxHeartbeats 4000000
set_option linter.unusedVariables false
namespace Mine.Internal

noncomputable def IsAcc (h : Heap) (x d : Addr) (xs : List Value) : Prop := ∃ n, h.get? x = some (accObj d xs n)

section
variable {w : World} {A : Around} {E : Value → Shared → Prop} {s : Shared} {x d it : Addr} {xs : List Value} {n i : Nat}

theorem acc_iter {Q : Value → Shared → Prop} (g : Gr w s.heap) (hx : s.heap.get? x = some (accObj d xs n))
    (hQ : Q (.ref s.heap.objs.size) { s with heap := s.heap.push { cls := .type "list_iterator", data := .fields #[.ref x, .int 0 0] } }) : wpAny (model Pg w) A (pyIter (.ref x)) Q E s := by
  have L : Looks (model Pg w) s.heap (specialOf (.ref x) "__iter__") (some (.builtin "list.__iter__")) := (acc_type hx).andThen (looks_findIn g.X (it178 w))
  unfold pyIter
  refine wpAny_bind (L.here ?_)
  show wpAny _ A (callSpecialIfBoundUnlessNone? (.ref x) "__iter__" _ >>= _) Q E s
  have fin : wpAny (model Pg w) A (call (.builtin "list.__iter__") [.ref x]) (fun v s' => wpAny (model Pg w) A (pure (some v)) (fun r s₁ => wpAny (model Pg w) A (match r with
      | some it => (do match ← specialOf it "__next__" with
        | none => rule "iter.non-iterator"; raiseError "TypeError" s!"iter() returned non-iterator of type '{← PySem.typeNameOf it}'"
        | some _ => pure it)
      | none => (do match ← bindSpecialIfBound? (.ref x) "__getitem__" with
        | none => rule "iter.not-iterable"; raiseError "TypeError" s!"'{← PySem.typeNameOf (.ref x)}' object is not iterable"
        | some _ => rule "iter.getitem-fallback"; newFields "iterator" [.ref x, ← mkInt 0])) Q E s₁) E s') E s := by
    refine acc_call (m := "__iter__") g hx (.inl (by decide +kernel)) (by decide +kernel) (by decide +kernel) PySem.F.entry_list_iter (PySem.F.args_list_iter_1 _) ?_
    show wpAny _ _ (do ret (← newFields "list_iterator" [.ref x, rawInt 0])) _ _ s
    refine wpAny_bind (wpAny_newObj_type (wpAny_pure ⟨_, rfl, wpAny_pure ?_⟩))
    exact wpAny_bind (wpAny_specialOf (T := "list_iterator") ⟨_, Heap.get?_push_size _ rfl, rfl⟩ slot_listiter_next.lookup (wpAny_pure hQ))
  unfold callSpecialIfBoundUnlessNone? bindSpecialIfBound?
  refine wpAny_bind (wpAny_holding (wpAny_bind (wpAny_bind (L.here (wpAny_bind (wpAny_askSetting (wpAny_ite ?_)))))))
  have hb := slot_list_iter.bind (.ref x)
  split
  · rw [hb]
    refine wpAny_bind (wpAny_pure (wpAny_pure ?_))
    exact wpAny_bind fin
  · rw [hb]
    refine wpAny_tryCatch (wpAny_bind (wpAny_pure (wpAny_pure ?_)))
    exact wpAny_bind fin

theorem acc_next {v : Value} {Q : Option Value → Shared → Prop} (hit : s.heap.IsListIter it x i) (hx : s.heap.get? x = some (accObj d xs n)) (hv : xs[i]? = some v)
    (hQ : ∀ h', h'.IsListIter it x (i + 1) → Heap.SameBut it s.heap h' → Q (some v) { s with heap := h' }) : wpAny (model Pg w) A (pyNext (.ref it)) Q E s := by
  obtain ⟨o, ho, hc, hd⟩ := id hit
  have hv' : xs.toArray[i]? = some v := by rw [List.getElem?_toArray]; exact hv
  unfold pyNext
  refine wpAny_bind (wpAny_attempt (wpAny_callSpecial?_slot (name := Str.ofString "__next__") hit.typeIs slot_listiter_next (wpAny_call_entry slot_listiter_next hit.typeIs entry_listiter_next ?_ (args_listiter_next _))))
  show wpAny _ _ (field (.ref it) 0 >>= _) _ _ s
  refine wpAny_bind (wpAny_field ho hd (x := .ref x) rfl ?_)
  show wpAny _ _ (if (Value.ref x == Value.none) = true then _ else _) _ _ s
  rw [if_neg (show ¬ ((Value.ref x == Value.none) = true) from Bool.false_ne_true)]
  show wpAny _ _ (field (.ref it) 1 >>= _) _ _ s
  refine wpAny_bind (wpAny_field ho hd (x := .int i 0) rfl ?_)
  show wpAny _ _ (seqItems? (.ref x) >>= _) _ _ s
  refine wpAny_bind (wpAny_seqItems hx rfl ?_)
  rw [Int.toNat_natCast]
  dsimp only
  rw [hv']
  dsimp only
  refine wpAny_bind (wpAny_setField ho hd (by first | exact nilT | exact nil1 | k_mem | simp) (wpAny_pure ⟨v, rfl, wpAny_pure (hQ _ ?_ (Heap.SameBut.update ..))⟩))
  exact ⟨_, Heap.get?_update_self _ ho (Obj.isFreed_of_fields (Obj.data_mapFields hd _)), (Obj.cls_mapFields ..).trans hc, by rw [Obj.data_mapFields hd]; simp [rawInt]⟩

theorem acc_nextEnd {Q : Option Value → Shared → Prop} (hh : A.handled = none) (hit : s.heap.IsListIter it x i) (hx : s.heap.get? x = some (accObj d xs n)) (hv : xs[i]? = none)
    (hQ : ∀ h', Heap.ExtBut it s.heap h' → Q none { s with heap := h' }) : wpAny (model Pg w) A (pyNext (.ref it)) Q E s := by
  obtain ⟨o, ho, hc, hd⟩ := id hit
  have hv' : xs.toArray[i]? = none := by rw [List.getElem?_toArray]; exact hv
  unfold pyNext
  refine wpAny_bind (wpAny_attempt (wpAny_callSpecial?_slot (name := Str.ofString "__next__") hit.typeIs slot_listiter_next (wpAny_call_entry slot_listiter_next hit.typeIs entry_listiter_next ?_ (args_listiter_next _))))
  show wpAny _ _ (field (.ref it) 0 >>= _) _ _ s
  refine wpAny_bind (wpAny_field ho hd (x := .ref x) rfl ?_)
  show wpAny _ _ (if (Value.ref x == Value.none) = true then _ else _) _ _ s
  rw [if_neg (show ¬ ((Value.ref x == Value.none) = true) from Bool.false_ne_true)]
  show wpAny _ _ (field (.ref it) 1 >>= _) _ _ s
  refine wpAny_bind (wpAny_field ho hd (x := .int i 0) rfl ?_)
  show wpAny _ _ (seqItems? (.ref x) >>= _) _ _ s
  refine wpAny_bind (wpAny_seqItems hx rfl ?_)
  rw [Int.toNat_natCast]
  dsimp only
  rw [hv']
  dsimp only
  refine wpAny_bind (wpAny_rule (wpAny_bind (wpAny_setField ho hd (by first | exact nilT | exact nil1 | k_mem | simp) ?_)))
  show wpAny _ _ (newExc (.type "StopIteration") [] >>= _) _ _ _
  refine wpAny_bind ?_
  unfold newExc newTuple
  refine wpAny_bind (wpAny_newObj_type ?_ (by size_fits))
  refine wpAny_bind (m := firstArgMember _ _) (wpAny_of_eq (a := Value.none) (by first | rfl | (simp only [firstArgMember]; rfl)) ?_)
  refine wpAny_newObj_type ?_ (by size_fits)
  unfold raiseNew
  refine wpAny_bind (wpAny_handled ?_)
  rw [show A.in1.handled = none from hh]
  refine wpAny_bind (wpAny_pure (wpAny_throw ?_))
  refine wpAny_bind (wpAny_isInstance (T := "StopIteration") (b := true) ⟨_, Heap.get?_push_size _ rfl, rfl⟩ isSubtype_stop ?_)
  exact wpAny_pure (hQ _ (((Heap.SameBut.update ..).extBut.push _).push _))
end

theorem acc_walk {w : World} {A : Around} (hh : A.handled = none) (I x d : Addr) (hne : x ≠ I) (xs : List Value) (Ts : Nat → Addr) (vals : Nat → Array Value)
    (hit : ∀ j, j < xs.length → xs[j]? = some (.ref (Ts j))) (hTI : ∀ j, j < xs.length → Ts j ≠ I) :
    WalksU Pg w A I (I :: x :: (List.range xs.length).map Ts) [I] xs.length (fun j v => v = vals j)
      (fun j h => h.IsListIter I x j ∧ IsAcc h x d xs ∧ ∀ k, k < xs.length → h.IsTuple (Ts k) (vals k))
      (fun j T h => (j < xs.length ∧ T = Ts j) ∧ h.IsListIter I x (j + 1) ∧ IsAcc h x d xs ∧ ∀ k, k < xs.length → h.IsTuple (Ts k) (vals k)) where
  sub := fun b hb => by simp at hb; simp [hb]
  frame := fun _ _ _ st hk => ⟨st.1.at fun o e => hk I (by first | exact nilT | exact nil1 | k_mem | simp) o e, let ⟨n, e⟩ := st.2.1; ⟨n, hk x (by first | exact nilT | exact nil1 | k_mem | simp) _ e⟩,
    fun k hk' => (st.2.2 k hk').at fun o e => hk (Ts k) (List.mem_cons_of_mem _ (List.mem_cons_of_mem _ (List.mem_map.mpr ⟨k, List.mem_range.mpr hk', rfl⟩))) o e⟩
  item := fun i s Q E hi st hQ => by
    obtain ⟨n, hx⟩ := st.2.1
    refine acc_next st.1 hx (hit i hi) fun h' hit' hs' => ?_
    have tup : ∀ k, k < xs.length → h'.IsTuple (Ts k) (vals k) := fun k hk' => (st.2.2 k hk').extBut hs'.extBut (hTI k hk')
    exact hQ (Ts i) (vals i) h' s.toks rfl (tup i hi) ⟨⟨hi, rfl⟩, hit', ⟨n, hs'.extBut _ _ hne hx⟩, tup⟩ fun b o hb e => hs'.extBut b o (fun h => hb (by simp [h])) e
  go := fun _ _ _ _ _ s Q _ hm hQ => wpAny_letOwnedTupleGo_listiter hm.2.1 (hQ s.heap hm.2 fun _ _ _ e => e)
  apart := fun j T _ hm hmem => by
    rcases List.mem_cons.mp hmem with e | e
    · exact hTI j hm.1.1 (hm.1.2 ▸ e)
    · cases e
  done := fun s Q E st hQ => by
    obtain ⟨n, hx⟩ := st.2.1
    exact acc_nextEnd hh st.1 hx (by first | exact nilT | exact nil1 | k_mem | simp) fun h' he' => hQ h' s.toks fun b o hb e => he' b o (fun h => hb (by simp [h])) e
  self := fun _ _ _ _ st hQ => wpAny_pyIter_listiter st.1 hQ
end Mine.Internal
end

section
open PySem PySem.W PyProof.Rows PySem.Calls
set_option maxRecDepth 100000
set_option maxHeartbeats 4000000
set_option linter.unusedVariables false
namespace Mine.Internal

theorem args_sum2 (a b : Value) : argsOk "sum" ⟨[a, b], []⟩ := by unfold argsOk; kernel_rfl

theorem sum0 {w : World} {A : Around} {E : Value → Shared → Prop} {s : Shared} {I : Addr} {fp wr : List Addr} {G : Array GenState → Array GenState → Prop} {n : Nat} {P : Nat → Value → Prop} {St : Nat → Shared → Prop} {val : Nat → Int} {ts : Tok} {Q : Value → Shared → Prop}
    (W : WalksS Pg w A.in1 I fp wr G n P St) (hst : St 0 s) (hfp : ∀ b ∈ fp, b < s.heap.objs.size) (hval : ∀ i v, P i v → ∃ t, v = .int (val i) t) (hfit : ∀ j, j < n → InLong (val j) ∧ InLong (preSum val (j + 1)))
    (hQ : ∀ s' t', Moved wr G s s' → Q (.int (preSum val n) t') s') : wpAny (model Pg w) A (call (.builtin "sum") [.ref I, .int 0 ts]) Q E s := by
  refine call_function_tree PySem.F.kind_sum PySem.F.plain_sum PySem.F.entry_sum (args_sum2 _ _) ?_
  unfold Builtin.«sum»
  refine wpAny_ite_false (by rfl) ?_
  refine wpAny_bind (wpAny_of_eq (show Builtin.Builtins.bindParams "sum" ["start"] 0 ⟨[.int 0 ts], []⟩ = pure [some (.int 0 ts)] from rfl) ?_)
  refine wpAny_bind (W.self 0 s _ _ hst ?_)
  refine wpAny_bind (wpAny_rule (wpAny_bind (wpAny_mkInt (wpAny_bind (wpAny_pure ?_)))))
  dsimp only
  refine wpAny_bind (wpAny_bind (wpAny_bind (wpAny_isInstance (T := "int") (b := false) (typeIs_int _ _ _) PySem.sub_int_str ?_)))
  refine wpAny_ite_false (by rfl) ?_
  refine wpAny_pure (wpAny_bind (wpAny_bind (wpAny_isInstance (T := "int") (b := false) (typeIs_int _ _ _) PySem.sub_int_bytes ?_)))
  refine wpAny_ite_false (by rfl) ?_
  refine wpAny_pure (wpAny_bind (wpAny_bind (wpAny_isInstance (T := "int") (b := false) (typeIs_int _ _ _) PySem.sub_int_bytearray ?_)))
  refine wpAny_ite_false (by rfl) ?_
  refine wpAny_pure (wpAny_pure ?_)
  refine wpAny_bind (wpAny_newObj_type ?_)
  have hSf : s.heap.objs.size ∉ fp := fun hm => Nat.lt_irrefl _ (hfp _ hm)
  refine wpAny_pure ⟨plainId_quiet PySem.F.plain_sum_loop _, codeAny_sum_loopS W val hval hfit s.heap.objs.size hSf n 0 _ s.toks 0 rfl (Nat.zero_le _)
    (W.frame 0 s _ _ hst (by first | exact Nat.le_refl _ | exact Nat.le_succ _ | omega) fun b _ o e => Heap.get?_push_of_some _ e) (Heap.get?_push_size _ rfl) fun s' t' hm => ?_⟩
  exact hQ s' t' (hm.drop_new (by first | exact Nat.le_refl _ | exact Nat.le_succ _ | omega))
end Mine.Internal
end

section
open PySem PySem.W PyProof.Rows PySem.Calls
set_option maxRecDepth 100000
set_option maxHeartbeats 4000000
set_option linter.unusedVariables false
namespace Mine.Internal

structure Pt where
  a : Addr
  f : Str
  p : Str
  t1 : Tok
  t2 : Tok
noncomputable abbrev Pt.obj (q : Pt) : Obj := tupObj q.f q.p q.t1 q.t2
noncomputable abbrev refs (ps : List Pt) : List Value := ps.map fun q => Value.ref q.a
noncomputable def PtsAt (h : Heap) (ps : List Pt) : Prop := ∀ q ∈ ps, h.get? q.a = some q.obj
noncomputable def Tab (h : Heap) (c P : Addr) : Prop := ∃ ps : Array Value, h.IsCode c P ps ∧ h.TableAt c P ps
theorem at_eq {h h' : Heap} {a b : Addr} {o o' : Obj} (e : b = a) (q : h.get? b = some o) (q' : h.get? a = some o') (r : h'.get? a = some o') : h'.get? b = some o := by
  subst e
  rw [q] at q'
  cases q'
  exact r
theorem Tab.at {h : Heap} {c P : Addr} (x : Tab h c P) : ∃ ps, h.get? P = some (X.tableObj ps) := let ⟨ps, _, _, t⟩ := x; ⟨ps, t⟩
theorem Tab.codeLt {h : Heap} {c P : Addr} (t : Tab h c P) : ∃ o, h.get? c = some o := by
  obtain ⟨tb', ⟨o, vs, file, tf, flags, tg, inF, text, tt, op, a', r⟩, _⟩ := t
  exact ⟨o, a'⟩
theorem Tab.keeps {h h' : Heap} {c P : Addr} (x : Tab h c P) (k : ∀ b o, (b = c ∨ b = P) → h.get? b = some o → h'.get? b = some o) : Tab h' c P := by
  have e1 : h'.get? c = h.get? c := x.codeLt.elim fun o e => (k _ _ (.inl rfl) e).trans e.symm
  have e2 : h'.get? P = h.get? P := x.at.elim fun ps e => (k _ _ (.inr rfl) e).trans e.symm
  delta Tab Heap.IsCode Heap.TableAt at x ⊢
  rw [e1, e2]
  exact x

theorem genCode {M : Model} {A : Around} {E : Value → Shared → Prop} {s : Shared} {env : Env} {c P : Addr} {pos : Pos} {qualname : Str} {scope : Scope} {Q : Value → Shared → Prop} (hc : env.code = .ref c) (hok : Tab s.heap c P)
    (hQ : ∀ code h' tk, Heap.ExtBut P s.heap h' → Tab h' c P → Q code { s with heap := h', toks := tk }) : wpAny M A (genexprCode env pos qualname scope) Q E s := by
  obtain ⟨ps, h1, h2⟩ := id hok
  cases hnf : codeAmong pos ps.toList with
  | some cv => exact wpAny_genexprCode_hit hc h1 hnf (hQ cv s.heap s.toks (Heap.ExtBut.refl _ _) hok)
  | none => exact wpAny_genexprCodeX hc h1 h2 hnf fun c' h' tk ex _ _ i1 _ i2 _ => hQ _ h' tk ex ⟨_, i1, i2⟩

theorem passing_all (n : Nat) : passing (fun _ => true) n 0 = List.range n := by
  unfold passing
  rw [List.drop_zero, List.filter_eq_self]
  exact fun _ _ => rfl

theorem rBuiFor {M : Model} {w : World} {A : Around} {E : Value → Shared → Prop} {s : Shared} {Q : Addr → Shared → Prop} (g : Gr w s.heap) (h : Q builtinsNs s) : wpAny M A (builtinsFor mainGlobals builtinsNs) Q E s := by
  obtain ⟨ob, ho, hc, hd, hp⟩ := g.M
  have e : nsIn (Kf w) mainGlobals "__builtins__" = some (some (.ref 4)) := by kernel_rfl
  unfold builtinsFor
  refine wpAny_bind ((looks_nsIn g.X e).here ?_)
  show wpAny M A (if ((4 : Addr) == builtinsNs) = true then _ else _) Q E s
  rw [if_neg (by decide)]
  refine wpAny_bind (wpAny_load ho ?_)
  rw [hp, hd, hc]
  exact wpAny_pure h

theorem gen_acc {w : World} {A : Around} {E : Value → Shared → Prop} {s : Shared} {env : Env} {L : Addr} {ks : List (Str × NameKind)} {h₀ : Heap} {l : List (Str × Value)} {x d c P : Addr} {n : Nat} {ps : List Pt}
    {elt : Expr} {pa pb pt px pos : Pos} {kt : Nat} {scope : Scope} {Q : Value → Shared → Prop} (val : Pt → Value → Prop)
    (hh : A.handled = none) (hroom : A.depth < recursionLimit) (e : En env L ks) (hcode : env.code = .ref c) (hok : Tab s.heap c P) (hfP : Fa P) (g : Gr w s.heap) (F : Fr h₀ L s.heap (mp l)) (hself : l.lookup ("self" : Str) = some (Value.ref x))
    (hks : ks.lookup ("self" : Str) = some .local) (hx : s.heap.get? x = some (accObj d (refs ps) n)) (hps : PtsAt s.heap ps) (hxP : x ≠ P)
    (hco : scope.isCoroutine = false) (hclos : closureFor scope env = pure []) (hcell : ∀ y ∈ scope.names, y.2 ≠ .cell) (hs0 : scope.names.lookup (".0" : Str) = some NameKind.local)
    (hxa : scope.names.lookup ("fws" : Str) = some .local) (hxb : scope.names.lookup ("part" : Str) = some .local) (hkind : scope.kind = .function)
    (helt : ∀ (cenv : Env) (C : Addr) (A' : Around) (E' : Value → Shared → Prop) (q : Pt) (u : Shared) (m₂ : Str → Option Value), A'.handled = none → A'.depth ≤ A.depth + 1 → A'.units ≤ A.units + 8 → q ∈ ps → Gr w u.heap → En cenv C scope.names → u.heap.Ns C m₂ →
      m₂ "fws" = some (.str q.f q.t1) → m₂ "part" = some (.str q.p q.t2) →
      wpAny (model Pg w) A' (eval elt cenv) (fun y s₃ => val q y ∧ Keeps u s₃) E' u)
    (hQ : ∀ (a : Addr) (s₅ : Shared) (fp wr : List Addr) (G : Array GenState → Array GenState → Prop) (St : Nat → Shared → Prop),
      WalksS Pg w A.in4 a fp wr G ps.length (fun j y => ∃ q, ps[j]? = some q ∧ val q y) St → St 0 s₅ → (∀ b ∈ fp, b < s₅.heap.objs.size) → a ∈ fp → (∀ i s, St i s → s.TypeIs (.ref a) "generator") → (∀ b ∈ wr, s.heap.get? b = none) →
      (∀ p q, G p q → AllBare p → AllBare q) → (∀ b o, b ≠ P → s.heap.get? b = some o → s₅.heap.get? b = some o) → Tab s₅.heap c P → (AllBare s.gens → AllBare s₅.gens) → s₅.os = s.os → P ∉ wr → Q (.ref a) s₅) :
    wpAny (model Pg w) A (eval (.GeneratorExp elt [⟨.Tuple [.Name "fws" pa, .Name "part" pb] kt pt, .Name "self" px, [], 0⟩] scope pos) env) Q E s := by
  obtain ⟨tb, htb⟩ := hok.at
  have hPlt : P < s.heap.objs.size := Heap.lt_size htb
  have hxlt := Heap.lt_size hx
  let Ts : Nat → Addr := fun j => (ps[j]?.map fun q => q.a).getD 0
  let vals : Nat → Array Value := fun j => (ps[j]?.map fun q => (#[.str q.f q.t1, .str q.p q.t2] : Array Value)).getD #[.none, .none]
  have hlen : (refs ps).length = ps.length := by simp
  have at' : ∀ j, j < ps.length → ∃ q, ps[j]? = some q ∧ q ∈ ps := fun j hj => ⟨ps[j], by simp [hj], List.getElem_mem hj⟩
  have hTs : ∀ j, j < (refs ps).length → s.heap.IsTuple (Ts j) (vals j) := fun j hj => by
    obtain ⟨q, eq, hm⟩ := at' j (hlen ▸ hj)
    simp only [Ts, vals, eq, Option.map_some, Option.getD_some]
    exact ⟨_, hps q hm, rfl, 0, rfl⟩
  have hTlt : ∀ j, j < (refs ps).length → Ts j < s.heap.objs.size := fun j hj => by obtain ⟨_, e, _⟩ := hTs j hj; exact Heap.lt_size e
  have hit : ∀ j, j < (refs ps).length → (refs ps)[j]? = some (.ref (Ts j)) := fun j hj => by
    obtain ⟨q, eq, _⟩ := at' j (hlen ▸ hj)
    simp [Ts, eq]
  have hTP : ∀ j, j < (refs ps).length → Ts j ≠ P := fun j hj q => by
    obtain ⟨o, ho, hc, nn, hdt⟩ := hTs j hj
    rw [q, htb] at ho
    cases ho
    cases hdt
  have W := fun (A' : Around) (hA : A'.handled = none) => (acc_walk (w := w) hA s.heap.objs.size x d (Nat.ne_of_lt hxlt) (refs ps) Ts vals hit fun j hj => Nat.ne_of_lt (hTlt j hj)).bound
  refine wpAny_GeneratorExp_walksQTD hh hco hclos hcell hs0 hxa hxb (by decide) hkind hroom (rLoc e F hself (acc_iter g hx ?_) hks) (fun _ => rfl)
  have gI : Gr w (s.heap.push { cls := .type "list_iterator", data := .fields #[.ref x, .int 0 0] }) := g.keeps fun b o _ q => Heap.get?_push_of_some _ q
  refine ⟨gI.nolimit, genCode hcode (hok.keeps fun b o _ q => Heap.get?_push_of_some _ q) fun code h₃ tk₃ ex₃ ok₃ => ?_⟩
  have g₃ : Gr w h₃ := gI.keeps fun b o hb q => ex₃ b o (fun z => hb (z ▸ hfP)) q
  rw [e.glob, e.bi]
  refine gen fun Y Z gq => rBuiFor g₃ (gq _ _ ?_)
  have up : ∀ b o, b ≠ P → s.heap.get? b = some o → h₃.get? b = some o := fun b o hb q => ex₃ b o hb (Heap.get?_push_of_some _ q)
  have hIP : s.heap.objs.size ≠ P := Nat.ne_of_gt hPlt
  have hI₃ : h₃.get? s.heap.objs.size = some { cls := .type "list_iterator", data := .fields #[.ref x, .int 0 0] } := ex₃ _ _ hIP (Heap.get?_push_size _ rfl)
  refine ⟨s.heap.objs.size, _, _, _, _, _, _, fun _ => true, fun i y => ∃ q, ps[i]? = some q ∧ val q y, rfl, W, (fun i v hv => ?_), ⟨⟨_, hI₃, rfl, rfl⟩, ⟨n, up _ _ hxP hx⟩, fun k hk => ?_⟩, (fun b hb => ?_), g₃.nolimit, ?_, (fun href hre => ⟨?_, ?_⟩), ?_⟩
  · rcases hv with ⟨hi, rfl⟩
    obtain ⟨q, eq, _⟩ := at' i (hlen ▸ hi)
    exact ⟨.str q.f q.t1, .str q.p q.t2, by simp [vals, eq]⟩
  · obtain ⟨o, ho, r⟩ := hTs k hk
    exact ⟨o, up _ _ (hTP k hk) ho, r⟩
  · exact inC (P := fun b => b < h₃.objs.size) (Heap.lt_size hI₃) (inC (Heap.lt_size (up _ _ hxP hx)) fun b hb => by
      obtain ⟨k, hk, e⟩ := List.mem_map.mp hb
      obtain ⟨o, ho, _⟩ := hTs k (List.mem_range.mp hk)
      exact e ▸ Heap.lt_size (up _ _ (hTP k (List.mem_range.mp hk)) ho)) b hb
  · intro hm
    have : cStatics = s.heap.objs.size := by simpa using hm
    have h2 := g.size
    rw [← this] at h2
    exact absurd h2 (by decide)
  · intro A' E' i va vb u m₂ h1 h2 h3 hP hn ha hb hk
    exact wpAny_pure ⟨rfl, u.heap, u.toks, rfl, fun _ _ q => q⟩
  · intro A' E' i va vb u m₂ h1 h2 h3 hP hpz hn ha hb hk
    obtain ⟨hi, hv⟩ := hP
    obtain ⟨q, eq, hm⟩ := at' i (hlen ▸ hi)
    simp only [vals, eq, Option.map_some, Option.getD_some] at hv
    obtain ⟨e1, e2⟩ : va = .str q.f q.t1 ∧ vb = .str q.p q.t2 := by simpa using congrArg Array.toList hv
    subst e1 e2
    have gu : Gr w u.heap := by
      have gh : Gr w href := g₃.keeps fun b o _ z => hre b o z
      refine g₃.keeps fun b o hfa z => hk b (List.mem_range.mpr (Heap.lt_size z)) (fun hw => ?_) o (hre b o z)
      have : b = s.heap.objs.size := by simpa using hw
      exact hfa (this ▸ g.fa)
    exact wpAny_mono (helt _ _ A' E' q u m₂ h1 h2 h3 hm gu ⟨hkind, rfl, fun _ => rfl, e.glob, rfl⟩ hn ha hb) (fun y s₃ r => ⟨⟨q, eq, r.1⟩, r.2⟩) fun _ _ z => z
  · intro a h₅ tk gs hbare hlt hsz hkeep WS hGA
    rw [hlen] at WS hGA
    have hlenP : (passing (fun _ => true) ps.length 0).length = ps.length := by rw [passing_all]; simp
    rw [hlenP] at WS
    have eP : (fun (j : Nat) (y : Value) => ∃ i, (passing (fun _ => true) ps.length 0)[j]? = some i ∧ ∃ q, ps[i]? = some q ∧ val q y) = fun j y => ∃ q, ps[j]? = some q ∧ val q y := by
      funext j y
      rw [passing_all]
      apply propext
      constructor
      · rintro ⟨i, hi, r⟩
        have : i = j := by
          have := List.getElem?_eq_some_iff.mp hi
          obtain ⟨_, h⟩ := this
          simpa using h.symm
        exact this ▸ r
      · rintro ⟨q, hq, r⟩
        exact ⟨j, by
          have := (List.getElem?_eq_some_iff.mp hq).1
          simp [this], q, hq, r⟩
    rw [eP] at WS
    refine hQ a _ _ _ _ _ WS hGA ?_ (List.mem_cons_self ..) ?_ ?_ ?_ ?_ ?_ ?_ rfl ?_
    · refine fun b hb => show b < h₅.objs.size from hsz ▸ ?_
      exact inC (P := fun b => b < a + 1) (Nat.lt_succ_self _) (inC (Nat.lt_succ_of_lt hlt) fun b hb => Nat.lt_succ_of_lt (Nat.lt_trans (List.mem_range.mp hb) hlt)) b hb
    · intro i s' hs'
      exact hs'.1.typeIs
    · intro b hb
      have hge : ∀ b, s.heap.objs.size ≤ b → s.heap.get? b = none := fun b hb => by
        cases z : s.heap.get? b with
        | none => rfl
        | some o => exact absurd (Heap.lt_size z) (Nat.not_lt.mpr hb)
      rcases List.mem_cons.mp hb with rfl | hb
      · exact hge _ (Nat.le_of_lt (Nat.lt_of_lt_of_le (Nat.lt_succ_self _) (Heap.lt_size hI₃)))
      · have : b = s.heap.objs.size := by simpa using hb
        exact hge _ (Nat.le_of_eq this.symm)
    · exact fun p q hpq hb => hpq.bare hb
    · exact fun b o hb q => hkeep b o (up b o hb q)
    · exact ok₃.keeps fun b o _ q => hkeep b o q
    · exact fun hb => hb.push hbare
    · intro hm
      rcases List.mem_cons.mp hm with q | hm
      · exact absurd (q ▸ hPlt) (Nat.not_lt.mpr (Nat.le_of_lt (Heap.lt_size hI₃)))
      · exact hIP (by simpa using hm : P = s.heap.objs.size).symm
end Mine.Internal
end

section
open PySem PySem.W PyProof.Rows PySem.Calls
set_option maxRecDepth 100000
set_option maxHeartbeats 4000000
set_option linter.unusedVariables false
namespace Mine.Internal

section
variable {M : Model} {w : World} {A : Around} {E : Value → Shared → Prop} {s : Shared} {env : Env} {Q : Value → Shared → Prop}
theorem rCall {x : Str} {p pos : Pos} {args : List Expr} (h : wpAny M A (eval (.Name x p) env) (fun f s₁ => wpAny M A (callWith pos f [] (backTo pos (starEach args env)) (backToKw pos (keywordEach [] env))) Q E s₁) E s) :
    wpAny M A (eval (.Call (.Name x p) args [] pos) env) Q E s := by
  show wpAny M A (do callWith pos (← eval (.Name x p) env) [] (backTo pos (starEach args env)) (backToKw pos (keywordEach [] env))) Q E s
  exact wpAny_bind h
theorem rAttr {o : Expr} {attr : Str} {pos : Pos} (h : wpAny (model Pg w) A (eval o env) (fun ov s₁ => wpAny (model Pg w) A (getAttr ov attr true) Q E s₁) E s) (hb : attributeBase o attr env (eval o env) = eval o env := by rfl) :
    wpAny (model Pg w) A (eval (.Attribute o attr pos) env) Q E s := by
  show wpAny _ A (do let ov ← attributeBase o attr env (eval o env); standAt pos.atName; let r ← holding [ov] (getAttr ov attr true); letTemporaryGo o ov r; pure r) Q E s
  rw [hb]
  exact wpAny_bind (wpAny_mono h (fun ov s₁ h₁ => wpAny_bind (wpAny_standAt (wpAny_bind (wpAny_holding (wpAny_mono h₁ (fun r s₂ h₂ => wpAny_bind (wpAny_letTemporaryGo (wpAny_pure h₂))) fun _ _ z => z))))) fun _ _ z => z)
end

noncomputable def Pt.len (q : Pt) : Nat := q.f.length + q.p.length
noncomputable def total (ps : List Pt) : Nat := (ps.map Pt.len).sum
theorem preSum_total (ps : List Pt) : ∀ j, j ≤ ps.length → preSum (fun j => (((ps[j]?.map Pt.len).getD 0 : Nat) : Int)) j = (total (ps.take j) : Nat) := by
  intro j
  induction j with
  | zero => exact fun _ => rfl
  | succ j ih =>
    intro hj
    rw [preSum, ih (Nat.le_of_succ_le hj)]
    unfold total
    rw [List.take_add_one, List.map_append, List.sum_append, List.getElem?_eq_getElem (show j < ps.length from hj)]
    simp
theorem total_take (ps : List Pt) (j : Nat) : total (ps.take j) ≤ total ps := by
  have : total ps = total (ps.take j) + total (ps.drop j) := by
    unfold total
    rw [← List.sum_append, ← List.map_append, List.take_append_drop]
  omega
theorem mem_le_total {q : Pt} : ∀ {ps : List Pt}, q ∈ ps → q.len ≤ total ps
  | r :: ps, h => by
    unfold total
    rw [List.map_cons, List.sum_cons]
    rcases List.mem_cons.mp h with rfl | h
    · omega
    · have := mem_le_total h
      unfold total at this
      omega
theorem len_le_total {ps : List Pt} {j : Nat} {q : Pt} (h : ps[j]? = some q) : q.len ≤ total ps := mem_le_total (List.mem_of_getElem? h)

theorem nLoc {M : Model} {A : Around} {E : Value → Shared → Prop} {s : Shared} {env : Env} {L : Addr} {ks : List (Str × NameKind)} {m : Str → Option Value} {x : Str} {pos : Pos} {v : Value} {Q : Value → Shared → Prop} (e : En env L ks) (n : s.heap.Ns L m) (hv : m x = some v) (h : Q v s)
    (hl : ks.lookup x = some .local := by kernel_rfl) (hd : (x == ("__debug__" : Str)) = false := by kernel_rfl) : wpAny M A (eval (.Name x pos) env) Q E s :=
  wpAny_Name (wpAny_loadName_local e.kind ((e.kinds x).trans hl) (e.loc ▸ n) hv h) hd

theorem len_ct {w : World} {A : Around} {R : Result → Shared → Prop} {s : Shared} {x d : Addr} {ps : List Pt} {n k : Nat} {hs : Int} {tk ti : Tok} (g : Gr w s.heap) (hx : s.heap.get? x = some (accObj d (refs ps) n)) (hd : s.heap.get? d = some (aDict hs tk 0 ti k))
    (hps : PtsAt s.heap ps) (hT : Tab s.heap 144 140) (hx1 : x ≠ 140) (hd1 : d ≠ 140) (hz : ps.length ≤ 1000) (ht : total ps ≤ 100000) (hA : A.depth + 2 < recursionLimit) (hh : A.handled = none)
    (ret : ∀ s' t', Go [140] s s' → Tab s'.heap 144 140 → R (.ok (.ret (.int (total ps) t'))) s') : codeAny (model Pg w) A (.call (.ref 145) ⟨[.ref x], []⟩) R s := by
  obtain ⟨tb, htb⟩ := hT.at
  refine enter (binds := [("self", .ref x)]) [(140, X.tableObj tb)] g (in1 ⟨htb, .inl rfl⟩) (by (first | with_reducible exact om_lt (by assumption) | omega)) (by k_is) rfl rfl (by kernel_rfl) (BindsTo.of_eq (by kernel_rfl)) (by kernel_rfl) (by kernel_rfl) rfl rfl rfl rfl rfl fun h₀ L h₁ env he e F N g₀ hkp hk' hL => ?_
  have up : ∀ b o, s.heap.get? b = some o → h₁.get? b = some o := fun b o q => by
    by_cases hb : b = 140
    · exact at_eq hb q htb (N _ (List.mem_singleton.mpr rfl)).1
    · exact F.keep _ _ (hkp _ _ (by first | exact one1 (hb) | simpa using hb) q)
  have hx₁ := up _ _ hx
  have hps₁ : PtsAt h₁ ps := fun q hq => up _ _ (hps q hq)
  have hT₁ : Tab h₁ 144 140 := hT.keeps fun b o _ q => up _ _ q
  refine wpAny_execs_cons (wpAny_Return_some (rCall (rBui e (g₀.fr F) (v := .builtin "sum") (by kernel_rfl) ?_)))
  refine rArgs (P := fun _ => True) (fun h q => keep_bui h q) (wpAny_items_cons ?_)
  refine gen_acc (c := 144) (P := 140) (d := d) (n := n) (ps := ps) (fun q y => ∃ t, y = Value.int ((q.len : Nat) : Int) t) hh (by show A.depth + 1 < _; (first | with_reducible exact om_ltd (by assumption) (by decide) | omega)) e (by rw [he]; rfl) hT₁ (.inl rfl) (g₀.fr F) F (by kernel_rfl) (by kernel_rfl) hx₁ hps₁ hx1 rfl (by rw [he]; kernel_rfl) (by decide) (by kernel_rfl) (by kernel_rfl) (by kernel_rfl) rfl ?_ ?_
  · intro cenv C A' E' q u m₂ hA' hd' hu' hq gu eC hn hf hp
    have hq' := mem_le_total hq
    refine wpAny_BinOp (rCall (rBui eC gu (v := .builtin "len") (by kernel_rfl) (rArgs (P := fun _ => True) (fun h q => keep_bui h q) (wpAny_items_cons (nLoc eC hn hf (wpAny_items_nil ⟨trivial, ?_⟩))))))
    have l1 : ¬ ((q.f.length : Int) ≥ 2 ^ 63) := by unfold Pt.len at hq'; omega
    have l2 : ¬ ((q.p.length : Int) ≥ 2 ^ 63) := by unfold Pt.len at hq'; omega
    refine PyProof.Rows.len_str l1 (rCall (rBui eC gu (v := .builtin "len") (by kernel_rfl) (rArgs (P := fun _ => True) (fun h q => keep_bui h q) (wpAny_items_cons (nLoc eC hn hp (wpAny_items_nil ⟨trivial, ?_⟩))))))
    refine PyProof.Rows.len_str l2 (wpAny_add_int ⟨⟨_, rfl⟩, u.heap, _, rfl, fun _ _ z => z⟩)
  · intro a s₅ fp wr G St W hSt hfp hafp hty hwr hG hk₅ hT₅ hb₅ hos hPw
    have F₅ : Fr h₀ L s₅.heap _ := frGo F (W := [140]) ⟨fun b o hb q => hk₅ b o (by first | exact one1 (hb) | simpa using hb) q⟩ (by
      simp only [List.mem_singleton]
      intro q
      have := g.size
      rw [← hL, q] at this
      exact absurd this (by decide)) (by simp; exact (N _ (List.mem_singleton.mpr rfl)).2.2)
    refine wpAny_items_cons (rAttr (rLoc e F₅ (v := .ref x) (by kernel_rfl) ?_))
    have hx₅ := hk₅ _ _ hx1 hx₁
    have hd₅ := hk₅ _ _ hd1 (up _ _ hd)
    refine acc_getAttr (g₀.fr F₅) hx₅ hd₅ (v := .int 0 ti) (attr := none) (by kernel_rfl) (by kernel_rfl) (by kernel_rfl) rfl (wpAny_items_nil ⟨trivial, ?_⟩)
    refine sum0 (W.in4_1) (val := fun j => (((ps[j]?.map Pt.len).getD 0 : Nat) : Int)) (s := { s₅ with toks := s₅.toks + 1 }) (W.frame 0 s₅ s₅.heap _ hSt (Nat.le_succ _) fun _ _ _ z => z) hfp ?_ ?_ fun s₆ t₆ mv => ?_
    · rintro i v ⟨q, hq, t, rfl⟩
      exact ⟨t, by rw [hq]; rfl⟩
    · intro j hj
      have h1 : (((ps[j]?.map Pt.len).getD 0 : Nat)) ≤ total ps := by
        cases hq : ps[j]? with
        | none => simp
        | some q => simpa using len_le_total hq
      have h2 := preSum_total ps (j + 1) hj
      have h3 := total_take ps (j + 1)
      unfold InLong
      rw [h2]
      constructor <;> omega
    · have h2 := preSum_total ps ps.length (Nat.le_refl _)
      rw [List.take_length] at h2
      rw [h2]
      have hkeep : ∀ b o, b ≠ 140 → s.heap.get? b = some o → s₆.heap.get? b = some o := fun b o hb q => mv.heap b o (fun hw => by
        have := hwr b hw
        rw [up _ _ q] at this
        cases this) (hk₅ _ _ hb (up _ _ q))
      refine ret _ _ ⟨⟨fun b o hb q => hkeep b o (by first | exact one1 (hb) | simpa using hb) q⟩, fun q => hG _ _ mv.gens (hb₅ q), mv.os.trans hos⟩ (hT₅.keeps fun b o hbc q => mv.heap b o (fun hw => hbc.elim (fun z => ?_) (fun z => hPw (z ▸ hw))) q)
      obtain ⟨o', a'⟩ := hT₁.codeLt
      have := hwr _ (z ▸ hw)
      rw [a'] at this
      cases this
end Mine.Internal
end

section
open PySem PySem.W PyProof.Rows PySem.Calls
set_option maxRecDepth 100000
set_option maxHeartbeats 4000000
set_option linter.unusedVariables false
namespace Mine.Internal

theorem es_val (w : World) : ∃ tk, nsIn (KK w.params) mainGlobals "EMPTYSTRING" = some (some (.str "" tk)) := ⟨_, by k_is⟩

noncomputable def Pt.txt (q : Pt) : Str := Txt.join "" [q.f, q.p]
noncomputable def lineTxt (ps : List Pt) : Str := Txt.join "" (ps.map Pt.txt)
theorem txt_len (q : Pt) : q.txt.length = q.len := by
  unfold Pt.txt Pt.len Txt.join
  rw [size_glued]
  simp [show (("" : Str).length) = 0 from rfl]
theorem line_len (ps : List Pt) : (lineTxt ps).length = total ps := by
  unfold lineTxt total Txt.join
  rw [size_glued]
  simp only [show (("" : Str).length) = 0 from rfl, Nat.mul_zero, Nat.add_zero, List.map_map]
  congr 1
  exact List.map_congr_left fun q _ => txt_len q

theorem keep_str {w : World} {x : Str} {t : Tok} (h : Heap) (_ : True) : ∃ k, (k = Keeper.frame ∨ k = Keeper.machine ∨ k = Keeper.boundFrame) ∧ Looks (model Pg w) h (keeperOf (.builtin "str.join")) k := keep_bui h trivial

theorem str_ct {w : World} {A : Around} {R : Result → Shared → Prop} {s : Shared} {x d : Addr} {ps : List Pt} {n : Nat} (g : Gr w s.heap) (hx : s.heap.get? x = some (accObj d (refs ps) n))
    (hps : PtsAt s.heap ps) (hT : Tab s.heap 151 147) (hx1 : x ≠ 147) (hz : ps.length ≤ 1000) (ht : total ps ≤ 100000) (hA : A.depth + 2 < recursionLimit) (hh : A.handled = none)
    (ret : ∀ s' t', Go [147] s s' → Tab s'.heap 151 147 → R (.ok (.ret (.str (lineTxt ps) t'))) s') : codeAny (model Pg w) A (.call (.ref 152) ⟨[.ref x], []⟩) R s := by
  obtain ⟨tb, htb⟩ := hT.at
  obtain ⟨te, hte⟩ := es_val w
  refine enter (binds := [("self", .ref x)]) [(147, X.tableObj tb)] g (in1 ⟨htb, .inr (.inl rfl)⟩) (by (first | with_reducible exact om_lt (by assumption) | omega)) (by k_is) rfl rfl (by kernel_rfl) (BindsTo.of_eq (by kernel_rfl)) (by kernel_rfl) (by kernel_rfl) rfl rfl rfl rfl rfl fun h₀ L h₁ env he e F N g₀ hkp hk' hL => ?_
  have up : ∀ b o, s.heap.get? b = some o → h₁.get? b = some o := fun b o q => by
    by_cases hb : b = 147
    · exact at_eq hb q htb (N _ (List.mem_singleton.mpr rfl)).1
    · exact F.keep _ _ (hkp _ _ (by first | exact one1 (hb) | simpa using hb) q)
  have hx₁ := up _ _ hx
  have hps₁ : PtsAt h₁ ps := fun q hq => up _ _ (hps q hq)
  have hT₁ : Tab h₁ 151 147 := hT.keeps fun b o _ q => up _ _ q
  refine wpAny_execs_cons (wpAny_Return_some (methodCall_KW (kws := []) (rGlob e (g₀.fr F) hte (GM.join ?_))))
  refine rArgs (P := fun _ => True) (fun h q => keep_bui h q) (wpAny_items_cons ?_)
  refine gen_acc (c := 151) (P := 147) (d := d) (n := n) (ps := ps) (fun q y => ∃ t, y = Value.str q.txt t) hh (by show A.depth + 1 < _; (first | with_reducible exact om_ltd (by assumption) (by decide) | omega)) e (by rw [he]; rfl) hT₁ (.inr (.inl rfl)) (g₀.fr F) F (by kernel_rfl) (by kernel_rfl) hx₁ hps₁ hx1 rfl (by rw [he]; kernel_rfl) (by decide) (by kernel_rfl) (by kernel_rfl) (by kernel_rfl) rfl ?_ ?_
  · intro cenv C A' E' q u m₂ hA' hd' hu' hq gu eC hn hf hp
    have hq' := mem_le_total hq
    refine methodCall_KW (kws := []) (rGlob eC gu hte (GM.join ?_))
    refine rArgs (P := fun _ => True) (fun h q => keep_bui h q) (wpAny_items_cons (wpAny_Tuple (wpAny_items_cons (nLoc eC hn hf (wpAny_items_cons (nLoc eC hn hp (wpAny_items_nil ⟨(by first | exact Nat.le_of_ble_eq_true rfl | simp [sizeLine]), wpAny_items_nil ⟨trivial, ?_⟩⟩)))))))
    refine join_tupleW (D := u.heap.objs.size) (items := [Value.str q.f q.t1, Value.str q.p q.t2].toArray) (ys := [q.f, q.p]) ⟨_, Heap.get?_push_size _ rfl, rfl, 0, rfl⟩ (.cons _ _ (.cons _ _ .nil)) (by decide) ?_ ?_
    · unfold Pt.len at hq'
      simp
      omega
    · intro t' k
      exact ⟨⟨_, rfl⟩, _, _, rfl, fun b o z => Heap.get?_push_of_some _ z⟩
  · intro a s₅ fp wr G St W hSt hfp hafp hty hwr hG hk₅ hT₅ hb₅ hos hPw
    refine wpAny_items_nil ⟨trivial, ?_⟩
    refine SC.joinGen W.in4_2 hty hSt hfp hafp ?_ ?_ (by simp only [sizeLine]; (first | with_reducible exact Nat.le_trans (by assumption) (by decide) | omega))
    · rintro i v ⟨q, _, t, rfl⟩
      exact ⟨_, _, rfl⟩
    · intro s₆ l mv hit
      have hl : l.map (·.1) = ps.map Pt.txt := by
        obtain ⟨h1, h2⟩ := hit
        have hlen : l.length = ps.length := by simpa [strValues] using h1
        apply List.ext_getElem?
        intro j
        by_cases hj : j < ps.length
        · obtain ⟨q, hq, t, e⟩ := h2 j (Value.str (l[j]'(hlen ▸ hj)).1 (l[j]'(hlen ▸ hj)).2) (by simp [strValues, hlen ▸ hj])
          have e1 := (Value.str.inj e).1
          rw [List.getElem?_map, List.getElem?_map, hq, List.getElem?_eq_getElem (hlen ▸ hj)]
          simp only [Option.map_some, e1]
        · rw [List.getElem?_eq_none (by simpa [hlen] using hj), List.getElem?_eq_none (by first | exact one1 (hj) | simpa using hj)]
      rw [hl]
      refine ⟨joinOk_of_weight ?_ (by decide), fun t' k => ?_⟩
      · have : ((ps.map Pt.txt).map (·.length)) = ps.map Pt.len := by
          rw [List.map_map]
          exact List.map_congr_left fun q _ => txt_len q
        rw [this, List.length_map]
        unfold total at ht
        omega
      · have hkeep : ∀ b o, b ≠ 147 → s.heap.get? b = some o → s₆.heap.get? b = some o := fun b o hb q => mv.heap b o (fun hw => by
          have := hwr b hw
          rw [up _ _ q] at this
          cases this) (hk₅ _ _ hb (up _ _ q))
        refine ret _ _ ⟨⟨fun b o hb q => hkeep b o (by first | exact one1 (hb) | simpa using hb) q⟩, fun q => hG _ _ mv.gens (hb₅ q), mv.os.trans hos⟩ (hT₅.keeps fun b o hbc q => mv.heap b o (fun hw => hbc.elim (fun z => ?_) (fun z => hPw (z ▸ hw))) q)
        obtain ⟨o', a'⟩ := hT₁.codeLt
        have := hwr _ (z ▸ hw)
        rw [a'] at this
        cases this
end Mine.Internal
end

section
open PySem PySem.W PyProof.Rows PySem.Calls
set_option maxRecDepth 100000
set_option maxHeartbeats 4000000
set_option linter.unusedVariables false
namespace Mine.Internal

structure Lv (k : Nat) (A : Around) : Prop where
  dep : A.depth + 20 * k ≤ 900
  un : A.units + 500 * k ≤ 9000
  han : A.handled = none

theorem Lv.down {k : Nat} {A A' : Around} (h : Lv (k + 1) A) (hd : A'.depth ≤ A.depth + 20) (hu : A'.units ≤ A.units + 500) (hh : A'.handled = A.handled := by rfl) : Lv k A' :=
  ⟨by have := h.dep; omega, by have := h.un; omega, hh.trans h.han⟩
theorem Lv.room {k : Nat} {A : Around} (h : Lv k A) : A.depth + 20 < recursionLimit := by
  have := h.dep
  have e : recursionLimit = 1000 := rfl
  omega
theorem Lv.less {j k : Nat} {A : Around} (h : Lv k A) (hj : j ≤ k) : Lv j A := ⟨Nat.le_trans (Nat.add_le_add_left (Nat.mul_le_mul_left _ hj) _) h.dep, Nat.le_trans (Nat.add_le_add_left (Nat.mul_le_mul_left _ hj) _) h.un, h.han⟩
theorem Lv.in_ {k : Nat} {A : Around} (h : Lv k A) : A.depth < recursionLimit := Nat.lt_of_le_of_lt (Nat.le_add_right _ _) h.room
theorem Lv.deep {k : Nat} {A : Around} {env : Env} (h : Lv (k + 1) A) (hd : (A.deeper env).depth = A.depth + 1 := by rfl) (hu : (A.deeper env).units = A.units + 3 := by rfl) : Lv k (A.deeper env) :=
  h.down (by rw [hd]; omega) (by rw [hu]; omega)
theorem Lv.line {k : Nat} {A : Around} (h : Lv k A) : A.units + 500 < cLine := by
  have := h.un
  have e : cLine = 9900 := rfl
  omega

structure Gx (w : World) (h : Heap) : Prop where
  g : Gr w h
  t1 : Tab h 144 140
  t2 : Tab h 151 147

structure Ac (h : Heap) (x d : Addr) (ps : List Pt) : Prop where
  obj : ∃ n, h.get? x = some (accObj d (refs ps) n)
  dict : ∃ hs tk ti k, h.get? d = some (aDict hs tk 0 ti k)
  pts : PtsAt h ps
  fx : (240 : Nat) ≤ x
  fd : (240 : Nat) ≤ d

theorem ne240 {x b : Nat} (h : 240 ≤ x) (hb : b < 240) : x ≠ b := by omega
theorem fa240 {x : Nat} (h : 240 ≤ x) : Fa x := .inr (.inr h)
theorem Ac.ne {h : Heap} {x d : Addr} {ps : List Pt} (a : Ac h x d ps) : x ≠ d := by
  rintro rfl
  obtain ⟨n, e⟩ := a.obj
  obtain ⟨hs, tk, ti, k, e'⟩ := a.dict
  rw [e] at e'
  cases e'
theorem PtsAt.step {h h' : Heap} {ps : List Pt} {W : List Addr} (p : PtsAt h ps) (st : Step W h h') (hW : ∀ b ∈ W, ∃ o, h.get? b = some o ∧ (o.cls == .type "tuple") = false) : PtsAt h' ps := fun q hq => st.keep _ _ (fun hw => by
  obtain ⟨o, e, hc⟩ := hW _ hw
  rw [p q hq] at e
  cases e
  cases hc) (p q hq)
theorem Tab.cls {h : Heap} {c P : Addr} (t : Tab h c P) : ∃ o, h.get? P = some o ∧ (o.cls == .type "tuple") = false := by
  obtain ⟨ps, e⟩ := t.at
  exact ⟨_, e, by rfl⟩
end Mine.Internal
end

section
open PySem PySem.W PyProof.Rows PySem.Calls
set_option maxRecDepth 100000
set_option maxHeartbeats 4000000
set_option linter.unusedVariables false
namespace Mine.Internal

theorem Step.thn {W W1 : List Addr} {h h' h'' : Heap} (a : Step W h h') (b : Step W1 h' h'') (hs : ∀ x ∈ W1, x ∈ W ∨ h.get? x = none) : Step W h h'' :=
  ⟨fun x o hx e => b.keep x o (fun q => by
    rcases hs x q with z | z
    · exact hx z
    · rw [z] at e; cases e) (a.keep x o hx e)⟩
theorem Step.push (h : Heap) (o : Obj) : Step [] h (h.push o) := ⟨fun b o' _ e => Heap.get?_push_of_some _ e⟩
theorem alive_ne {h : Heap} {a b : Addr} {o : Obj} (e : h.get? a = some o) (d : h.get? b = none) : a ≠ b := by
  rintro rfl
  rw [e] at d
  cases d
theorem dead_size (h : Heap) : h.get? h.objs.size = none := by
  cases q : h.get? h.objs.size with
  | none => rfl
  | some o => exact absurd (Heap.lt_size q) (Nat.lt_irrefl _)
theorem dead_back {W : List Addr} {h h' : Heap} {a : Addr} (st : Step W h h') (ha : a ∉ W) (d : h'.get? a = none) : h.get? a = none := by
  cases q : h.get? a with
  | none => rfl
  | some o =>
    rw [st.keep _ _ ha q] at d
    cases d

theorem tab_step {h h' : Heap} {c P : Addr} {W : List Addr} (t : Tab h c P) (st : Step W h h') (hc : c ∉ W) (hP : P ∉ W) : Tab h' c P :=
  t.keeps fun b o hb e => st.keep b o (fun q => hb.elim (fun z => hc (z ▸ q)) fun z => hP (z ▸ q)) e
theorem Gx.step {w : World} {h h' : Heap} {W : List Addr} (x : Gx w h) (st : Step W h h') (hW : ∀ a : Nat, a ∈ W → 240 ≤ a) : Gx w h' :=
  ⟨x.g.step st fun a ha => fa240 (hW a ha), tab_step x.t1 st (fun q => absurd (hW _ q) (by decide)) (fun q => absurd (hW _ q) (by decide)), tab_step x.t2 st (fun q => absurd (hW _ q) (by decide)) (fun q => absurd (hW _ q) (by decide))⟩

noncomputable def NoTup (h : Heap) (W : List Addr) : Prop := ∀ b ∈ W, ∀ f p t1 t2, h.get? b ≠ some (tupObj f p t1 t2)
theorem pts_step {h h' : Heap} {ps : List Pt} {W : List Addr} (p : PtsAt h ps) (st : Step W h h') (hW : NoTup h W) : PtsAt h' ps :=
  fun q hq => st.keep _ _ (fun hw => hW _ hw _ _ _ _ (p q hq)) (p q hq)
theorem Ac.step {h h' : Heap} {x d : Addr} {ps : List Pt} {W : List Addr} (a : Ac h x d ps) (st : Step W h h') (hx : x ∉ W) (hd : d ∉ W) (hW : NoTup h W) : Ac h' x d ps :=
  ⟨let ⟨n, e⟩ := a.obj; ⟨n, st.keep _ _ hx e⟩, let ⟨hs, tk, ti, k, e⟩ := a.dict; ⟨hs, tk, ti, k, st.keep _ _ hd e⟩, pts_step a.pts st hW, a.fx, a.fd⟩
theorem noTup_nil {h : Heap} : NoTup h [] := fun _ hb => nomatch hb
theorem noTup_tab {h : Heap} {c P : Addr} (t : Tab h c P) : NoTup h [P] := by
  intro b hb f p t1 t2 e
  obtain ⟨ps, e'⟩ := t.at
  rw [List.mem_singleton.mp hb, e'] at e
  cases e
theorem noTup_dict {h : Heap} {b : Addr} {o : Obj} {es : Array DictEntry} {k : Nat} (e : h.get? b = some o) (hd : o.data = .dict es k) : NoTup h [b] := by
  intro b' hb f p t1 t2 e'
  rw [List.mem_singleton.mp hb, e] at e'
  cases e'
  cases hd
theorem noTup_ns {h : Heap} {L : Addr} {m : Str → Option Value} (n : h.Ns L m) : NoTup h [L] := by
  obtain ⟨o, es, ep, e, hd, _⟩ := n
  exact noTup_dict e hd
theorem noTup_acc {h : Heap} {x d : Addr} {ps : List Pt} (a : Ac h x d ps) : NoTup h [x] := by
  intro b' hb f p t1 t2 e'
  obtain ⟨n, e⟩ := a.obj
  rw [List.mem_singleton.mp hb, e] at e'
  cases e'
theorem noTup_app {h : Heap} {W W' : List Addr} (a : NoTup h W) (b : NoTup h W') : NoTup h (W ++ W') := fun x hx => by
  rcases List.mem_append.mp hx with q | q
  · exact a x q
  · exact b x q
theorem ns_step {h h' : Heap} {L : Addr} {m : Str → Option Value} {W : List Addr} (n : h.Ns L m) (st : Step W h h') (hL : L ∉ W) : h'.Ns L m :=
  let ⟨o, es, ep, e, r⟩ := n; ⟨o, es, ep, st.keep _ _ hL e, r⟩

theorem rStoS {M : Model} {A : Around} {E : Value → Shared → Prop} {s : Shared} {env : Env} {L : Addr} {ks : List (Str × NameKind)} {l : List (Str × Value)} {x : Str} {v : Value} {Q : Unit → Shared → Prop} (e : En env L ks) (n : s.heap.Ns L (mp l))
    (h : ∀ h', h'.Ns L (mp ((x, v) :: l)) → Step [L] s.heap h' → Q () { s with heap := h', toks := s.toks + 1 }) (hl : ks.lookup x = some .local := by kernel_rfl) : wpAny M A (storeName env x v) Q E s := by
  obtain rfl := e.loc
  refine wpAny_storeName_local ((e.kinds x).trans hl) n (fun h' hn hs => ?_) e.plain
  rw [mp_set] at hn
  exact h h' hn ⟨fun b o hb q => hs.extBut b o (by first | exact one1 (hb) | simpa using hb) q⟩

theorem rLcl {M : Model} {A : Around} {E : Value → Shared → Prop} {s : Shared} {env : Env} {L : Addr} {ks : List (Str × NameKind)} {l : List (Str × Value)} {x : Str} {pos : Pos} {v : Value} {Q : Value → Shared → Prop} (e : En env L ks) (n : s.heap.Ns L (mp l)) (hv : l.lookup x = some v) (h : Q v s)
    (hl : ks.lookup x = some .local := by kernel_rfl) (hd : (x == ("__debug__" : Str)) = false := by kernel_rfl) : wpAny M A (eval (.Name x pos) env) Q E s :=
  nLoc e n hv h hl hd

theorem enterS {w : World} {A : Around} {R : Result → Shared → Prop} {s : Shared} {f : Addr} {o : Obj} {fd : FuncData} {body : List Stmt} {args : Args} {binds : List (Str × Value)}
    (g : Gr w s.heap) (hroom : A.depth < recursionLimit)
    (ho : (KK w.params).lookup f = some o) (hdata : o.data = .func fd) (hbody : fd.body = .stmts body) (hcd : codeIn (Kf w) fd.code fd.qualname = true) (hbind : BindsTo s fd args binds)
    (hcell : (fd.scope.names.all fun x => x.2 != .cell) = true) (hloc : (binds.all fun x => fd.scope.names.lookup x.1 == some .local) = true)
    (hco : fd.scope.isCoroutine = false) (hgen : fd.scope.isGenerator = false) (hk : fd.scope.kind = .function) (hgl : fd.globals = mainGlobals) (hbi : fd.builtins = builtinsNs)
    (h : ∀ L h₁ env, env = callEnv fd L f → En env L fd.scope.names → h₁.Ns L (mp binds.reverse) → Step [] s.heap h₁ → s.heap.get? L = none → (240 : Nat) ≤ L →
      wpAny (model Pg w) (A.deeper env) (execs body env) (fun fl s' => R (.ok (.ret (match fl with | .ret v => v | _ => .none))) s') (fun _ _ => False) { s with heap := h₁, toks := s.toks + binds.length }) :
    codeAny (model Pg w) A (.call (.ref f) args) R s := by
  refine enter (binds := binds) [] g (by first | exact nilT | exact nil1 | k_mem | simp) hroom ho hdata hbody hcd hbind hcell hloc hco hgen hk hgl hbi fun h₀ L h₁ env he e F N g₀ hkp hk' hL => ?_
  exact h L h₁ env he e F.ns ⟨fun b o _ q => F.keep b o (hkp b o (by first | exact nilT | exact nil1 | k_mem | simp) q)⟩ (hL ▸ dead_size _) (hL ▸ g.size)
end Mine.Internal
end

section
open PySem PySem.W PyProof.Rows PySem.Calls
set_option maxRecDepth 100000
set_option maxHeartbeats 4000000
set_option linter.unusedVariables false
namespace Mine.Internal

theorem Go.step {W : List Addr} {s s' : Shared} (g : Go W s s') : Step W s.heap s'.heap := g.heap
theorem Go.thn {W W1 : List Addr} {s s' s'' : Shared} (a : Go W s s') (b : Go W1 s' s'') (hs : ∀ x ∈ W1, x ∈ W ∨ s.heap.get? x = none) : Go W s s'' :=
  ⟨a.heap.thn b.heap hs, fun q => b.gens (a.gens q), b.os.trans a.os⟩
theorem Go.of {W : List Addr} {s : Shared} {h' : Heap} {tk : Nat} (st : Step W s.heap h') : Go W s { s with heap := h', toks := tk } := ⟨st, id, rfl⟩
theorem Go.tk {W : List Addr} {s s' : Shared} {tk : Nat} (g : Go W s s') : Go W s { s' with toks := tk } := ⟨g.heap, g.gens, g.os⟩

section
variable {w : World} {A : Around} {E : Value → Shared → Prop} {s : Shared} {x d : Addr} {ps : List Pt} {Q : Value → Shared → Prop}

theorem len_c (gx : Gx w s.heap) (a : Ac s.heap x d ps) (hz : ps.length ≤ 400) (ht : total ps ≤ 100000) (lv : Lv 1 A)
    (ret : ∀ s' t', Go [140] s s' → Gx w s'.heap → Ac s'.heap x d ps → Q (.int (total ps) t') s') : wpAny (model Pg w) A (call (.ref 145) [.ref x]) Q E s := by
  obtain ⟨n, hx⟩ := a.obj
  obtain ⟨hs, tk, ti, k, hd⟩ := a.dict
  have h1 := lv.room
  refine wpAny_call (len_ct gx.g hx hd a.pts gx.t1 (ne240 a.fx (by decide)) (ne240 a.fd (by decide)) (by (first | with_reducible exact Nat.le_trans (by assumption) (by decide) | omega)) ht (by (first | with_reducible exact om_ltd (by assumption) (by decide) | omega)) lv.han fun s' t' go t1 => ret s' t' go ?_ ?_)
  · exact ⟨gx.g.step go.heap (by simp [Fa]), t1, tab_step gx.t2 go.heap (by decide) (by decide)⟩
  · exact a.step go.heap (by simpa using ne240 a.fx (by decide)) (by simpa using ne240 a.fd (by decide)) (noTup_tab gx.t1)

theorem str_c (gx : Gx w s.heap) (a : Ac s.heap x d ps) (hz : ps.length ≤ 400) (ht : total ps ≤ 100000) (lv : Lv 1 A)
    (ret : ∀ s' t', Go [147] s s' → Gx w s'.heap → Ac s'.heap x d ps → Q (.str (lineTxt ps) t') s') : wpAny (model Pg w) A (call (.ref 152) [.ref x]) Q E s := by
  obtain ⟨n, hx⟩ := a.obj
  have h1 := lv.room
  refine wpAny_call (str_ct gx.g hx a.pts gx.t2 (ne240 a.fx (by decide)) (by (first | with_reducible exact Nat.le_trans (by assumption) (by decide) | omega)) ht (by (first | with_reducible exact om_ltd (by assumption) (by decide) | omega)) lv.han fun s' t' go t1 => ret s' t' go ?_ ?_)
  · exact ⟨gx.g.step go.heap (by simp [Fa]), tab_step gx.t1 go.heap (by decide) (by decide), t1⟩
  · exact a.step go.heap (by simpa using ne240 a.fx (by decide)) (by simpa using ne240 a.fd (by decide)) (noTup_tab gx.t2)

theorem acI (a : Ac s.heap x d ps) : ∃ n od, InstAt s.heap x (accObj d (refs ps) n) 178 (some od) := by
  obtain ⟨n, hx⟩ := a.obj
  obtain ⟨hs, tk, ti, k, hd⟩ := a.dict
  exact ⟨n, _, accI hx hd⟩

theorem fl178 (w : World) : findIn (Kf w) (.ref 178) "__len__" = some (some (.ref 145)) := by kernel_rfl
theorem fs178 (w : World) : findIn (Kf w) (.ref 178) "__str__" = some (some (.ref 152)) := by kernel_rfl
theorem fb178 (w : World) : findIn (Kf w) (.ref 178) "__bool__" = some none := by kernel_rfl

theorem bStr (gx : Gx w s.heap) (a : Ac s.heap x d ps) (hz : ps.length ≤ 400) (ht : total ps ≤ 100000) (lv : Lv 2 A)
    (ret : ∀ s' t', Go [147] s s' → Gx w s'.heap → Ac s'.heap x d ps → Q (.str (lineTxt ps) t') s') : wpAny (model Pg w) A (call (.type "str") [.ref x]) Q E s := by
  obtain ⟨n, od, I⟩ := acI a
  have h1 := lv.line
  exact kso_call (K := Kf w) (by show A.units + 1 + 1 < _; omega) gx.g.X I (fs178 w) (by kernel_rfl) (str_c gx a hz ht (lv.down (Nat.le_add_right ..) (by show A.units + 1 + 1 ≤ _; omega)) fun s' t' go g' a' => ret s' t' go g' a')

theorem len_body {Q : Fin → Shared → Prop} (gx : Gx w s.heap) (a : Ac s.heap x d ps) (hz : ps.length ≤ 400) (ht : total ps ≤ 100000) (lv : Lv 1 A)
    (ret : ∀ s' t', Go [140] s s' → Gx w s'.heap → Ac s'.heap x d ps → Q (.done (.ret (.int (total ps) t'))) s') : wpAny (model Pg w) A (Builtin.«len» ⟨[.ref x], []⟩) Q E s := by
  obtain ⟨n, od, I⟩ := acI a
  unfold Builtin.«len»
  refine wpAny_bind (m := oneArg "len" _) (wpAny_pure ?_)
  refine wpAny_bind (m := callSpecial? (.ref x) (Str.ofString "__len__")) (special_fn gx.g.X I (fl178 w) (by kernel_rfl) (len_c gx a hz ht lv fun s' t' go g' a' => ?_))
  refine wpAny_bind (wpAny_holding (wpAny_pure (wpAny_bind (wpAny_letGo ?_))))
  show wpAny _ _ (if ((total ps : Nat) : Int) < 0 then _ else _) _ _ _
  rw [if_neg (by omega)]
  show wpAny _ _ (if ((total ps : Nat) : Int) ≥ 2 ^ 63 then _ else _) _ _ _
  rw [if_neg (by omega)]
  exact wpAny_bind (wpAny_mkInt (wpAny_pure (ret _ _ go.tk g' a')))

theorem bLen (gx : Gx w s.heap) (a : Ac s.heap x d ps) (hz : ps.length ≤ 400) (ht : total ps ≤ 100000) (lv : Lv 2 A)
    (ret : ∀ s' t', Go [140] s s' → Gx w s'.heap → Ac s'.heap x d ps → Q (.int (total ps) t') s') : wpAny (model Pg w) A (call (.builtin "len") [.ref x]) Q E s :=
  Calls.call_function_entry kind_len plain_len entry_len (args_len1 _) (len_body gx a hz ht (lv.down (Nat.le_add_right ..) (by show A.units + 1 ≤ _; omega)) fun s' t' go g' a' => ⟨_, rfl, ret s' t' go g' a'⟩)

theorem bTruthy {Q : Bool → Shared → Prop} (gx : Gx w s.heap) (a : Ac s.heap x d ps) (hz : ps.length ≤ 400) (ht : total ps ≤ 100000) (lv : Lv 2 A)
    (ret : ∀ s', Go [140] s s' → Gx w s'.heap → Ac s'.heap x d ps → Q ((total ps : Int) != 0) s') : wpAny (model Pg w) A (truthy (.ref x)) Q E s := by
  obtain ⟨n, od, I⟩ := acI a
  unfold truthy
  refine wpAny_bind (m := callSpecial? (.ref x) (Str.ofString "__bool__")) (wpAny_bind (wpAny_bind (I.type.here ((looks_findIn gx.g.X (fb178 w)).here (wpAny_pure ?_)))))
  refine wpAny_bind (wpAny_bind (I.type.here ((looks_findIn gx.g.X (fl178 w)).here ?_)))
  show wpAny _ _ (runValue _ >>= _) _ _ _
  refine wpAny_bind (wpAny_runValue (codeAny_builtin entry_len ?_))
  rw [Around.under_plainId plain_len _]
  exact len_body gx a hz ht (lv.down (Nat.le_add_right ..) (by show A.units + 1 ≤ _; omega)) fun s' t' go g' a' => wpAny_pure (ret s' go g' a')
end

theorem onlyws_ct {w : World} {A : Around} {R : Result → Shared → Prop} {s : Shared} {x d : Addr} {ps : List Pt} (gx : Gx w s.heap) (a : Ac s.heap x d ps) (hz : ps.length ≤ 400) (ht : total ps ≤ 100000) (h0 : 0 < total ps) (hsp : Txt.isspace (lineTxt ps) = false) (lv : Lv 3 A)
    (ret : ∀ s', Go [140, 147] s s' → Gx w s'.heap → Ac s'.heap x d ps → R (.ok (.ret (.bool false))) s') : codeAny (model Pg w) A (.call (.ref 167) ⟨[.ref x], []⟩) R s := by
  have h1 := lv.room
  refine enterS (binds := [("self", .ref x)]) gx.g lv.in_ (by k_is) rfl rfl (by kernel_rfl) (BindsTo.of_eq (by kernel_rfl)) (by kernel_rfl) (by kernel_rfl) rfl rfl rfl rfl rfl fun L h₁ env he e n₁ st₁ hL hL' => ?_
  have gx₁ := gx.step st₁ (by first | exact nilT | exact nil1 | k_mem | simp)
  have a₁ := a.step st₁ (by first | exact nilT | exact nil1 | k_mem | simp) (by first | exact nilT | exact nil1 | k_mem | simp) noTup_nil
  obtain ⟨n, hx⟩ := a₁.obj
  obtain ⟨hs, tk, ti, k, hd⟩ := a₁.dict
  have lv' : Lv 2 (A.deeper env) := lv.deep
  refine wpAny_execs_cons (wpAny_Return_some (wpAny_And2 (wpAny_Compare1 (rAttr (rLcl e n₁ (v := .ref x) (by kernel_rfl) ?_)))))
  refine acc_getAttr gx₁.g hx hd (v := .int 0 ti) (attr := none) (by kernel_rfl) (by kernel_rfl) (by kernel_rfl) rfl (wpAny_Constant_int (PyProof.Rows.eq_int ?_))
  refine wpAny_truthy_bool (if_tt ?_)
  refine wpAny_Or2 (wpAny_UnaryOp (rLcl e n₁ (v := .ref x) (by kernel_rfl) (not_of (bTruthy gx₁ a₁ hz ht lv' fun s₂ go₂ gx₂ a₂ => ?_))))
  have hne : ((total ps : Int) != 0) = true := by simp; omega
  rw [hne]
  refine wpAny_truthy_bool (if_ff ?_)
  have n₂ := ns_step n₁ go₂.heap (by simpa using ne240 hL' (by decide))
  refine methodCall_KW (kws := []) (rCall (rBui e gx₂.g (v := .type "str") (by kernel_rfl) ?_))
  refine rArgs (P := fun _ => True) (fun h q => ⟨.machine, .inr (.inl rfl), .of_pure rfl⟩) (wpAny_items_cons (rLcl e n₂ (v := .ref x) (by kernel_rfl) (wpAny_items_nil ⟨trivial, ?_⟩)))
  refine bStr gx₂ a₂ hz ht lv' fun s₃ t₃ go₃ gx₃ a₃ => GM.isspace ?_
  refine callWith_of (P := fun _ => True) rfl (fun h q => keep_bui h q) (evalArgs_nil3 ⟨trivial, SC.isspace ?_⟩)
  rw [hsp]
  refine ret _ ⟨(st₁.mono (by first | exact nilT | exact nil1 | k_mem | simp)).thn ((go₂.heap.mono (W' := [140, 147]) (by first | exact nilT | exact nil1 | k_mem | simp)).thn go₃.heap (by first | exact nilT | exact nil1 | k_mem | simp)) (by first | exact nilT | exact nil1 | k_mem | simp), fun q => go₃.gens (go₂.gens q), go₃.os.trans go₂.os⟩ gx₃ a₃
end Mine.Internal
end

section
open PySem PySem.W PyProof.Rows PySem.Calls
set_option maxRecDepth 100000
set_option maxHeartbeats 4000000
set_option linter.unusedVariables false
namespace Mine.Internal

theorem refs_app (ps qs : List Pt) : refs (ps ++ qs) = refs ps ++ refs qs := List.map_append ..
section
variable {w : World} {A : Around} {E : Value → Shared → Prop} {s : Shared} {x d : Addr} {ps qs : List Pt} {Q : Value → Shared → Prop}

theorem gx1 {s' : Shared} (gx : Gx w s.heap) (go : Go [x] s s') (hx : (240 : Nat) ≤ x) : Gx w s'.heap := gx.step go.heap (by first | exact one1 (hx) | simpa using hx)
theorem gx2 {s' : Shared} (gx : Gx w s.heap) (go : Go [x, d] s s') (hx : (240 : Nat) ≤ x) (hd : (240 : Nat) ≤ d) : Gx w s'.heap := gx.step go.heap (by simp; exact ⟨hx, hd⟩)

theorem push_c {f p : Str} {t1 t2 : Tok} (gx : Gx w s.heap) (a : Ac s.heap x d ps) (hz : ps.length ≤ 400) (lv : Lv 1 A)
    (ret : ∀ s' t, Go [x] s s' → Gx w s'.heap → Ac s'.heap x d (ps ++ [⟨t, f, p, t1, t2⟩]) → s.heap.get? t = none → Q .none s') : wpAny (model Pg w) A (call (.ref 122) [.ref x, .str f t1, .str p t2]) Q E s := by
  obtain ⟨n, hx⟩ := a.obj
  obtain ⟨hs, tk, ti, k, hd⟩ := a.dict
  have h1 := lv.room
  refine wpAny_call (push_ct gx.g hx hd (Ne.symm a.ne) (fa240 a.fx) (by kernel_rfl) (by simp; omega) (by (first | with_reducible exact om_lt (by assumption) | omega)) fun s' n' t go e1 e2 hf => ret s' t go (gx1 gx go a.fx) ⟨⟨n', ?_⟩, ⟨hs, tk, ti, k, go.heap.keep _ _ (by first | exact one1 (Ne.symm a.ne) | simpa using Ne.symm a.ne) hd⟩, ?_, a.fx, a.fd⟩ hf)
  · rw [refs_app]; exact e1
  · intro q hq
    rcases List.mem_append.mp hq with hq | hq
    · exact pts_step a.pts go.heap (noTup_acc a) q hq
    · rw [List.mem_singleton.mp hq]; exact e2

theorem pop_c {q : Pt} (gx : Gx w s.heap) (a : Ac s.heap x d (ps ++ [q])) (hz : ps.length ≤ 400) (lv : Lv 1 A)
    (ret : ∀ s', Go [x] s s' → Gx w s'.heap → Ac s'.heap x d ps → s'.heap.get? q.a = some q.obj → Q (.ref q.a) s') : wpAny (model Pg w) A (call (.ref 138) [.ref x]) Q E s := by
  obtain ⟨n, hx⟩ := a.obj
  obtain ⟨hs, tk, ti, k, hd⟩ := a.dict
  have h1 := lv.room
  rw [refs_app] at hx
  refine wpAny_call (pop_ct gx.g hx hd (Ne.symm a.ne) (fa240 a.fx) (ne240 a.fx (by decide)) (by kernel_rfl) (by simp; omega) (by (first | with_reducible exact om_ltd (by assumption) (by decide) | omega)) fun s' n' go e1 => ?_)
  have pp := pts_step a.pts go.heap (noTup_acc a)
  exact ret s' go (gx1 gx go a.fx) ⟨⟨n', e1⟩, ⟨hs, tk, ti, k, go.heap.keep _ _ (by first | exact one1 (Ne.symm a.ne) | simpa using Ne.symm a.ne) hd⟩, fun r hr => pp r (List.mem_append_left _ hr), a.fx, a.fd⟩ (pp q (by first | exact nilT | exact nil1 | k_mem | simp))

theorem pop_from_c {k : Nat} {tk : Tok} (gx : Gx w s.heap) (a : Ac s.heap x d ps) (hz : ps.length ≤ 400) (hk : k ≤ ps.length) (lv : Lv 1 A)
    (ret : ∀ s' l, Go [x] s s' → Gx w s'.heap → Ac s'.heap x d (ps.take k) → s'.heap.get? l = some (lstObj (refs (ps.drop k)) 0) → s.heap.get? l = none → PtsAt s'.heap (ps.drop k) → Q (.ref l) s') : wpAny (model Pg w) A (call (.ref 130) [.ref x, .int k tk]) Q E s := by
  obtain ⟨n, hx⟩ := a.obj
  obtain ⟨hs, tk', ti, kk, hd⟩ := a.dict
  have h1 := lv.room
  refine wpAny_call (pop_from_ct gx.g hx (fa240 a.fx) (by first | exact one1 (hk) | simpa using hk) (by simp; (first | with_reducible exact Nat.le_trans (by assumption) (by decide) | omega)) (by (first | with_reducible exact om_lt (by assumption) | omega)) fun s' n' l go e1 e2 hf => ?_)
  have pp := pts_step a.pts go.heap (noTup_acc a)
  refine ret s' l go (gx1 gx go a.fx) ⟨⟨n', ?_⟩, ⟨hs, tk', ti, kk, go.heap.keep _ _ (by first | exact one1 (Ne.symm a.ne) | simpa using Ne.symm a.ne) hd⟩, fun r hr => pp r (List.mem_of_mem_take hr), a.fx, a.fd⟩ ?_ hf fun r hr => pp r (List.mem_of_mem_drop hr)
  · rw [e1]; congr 2; exact (List.map_take ..).symm
  · rw [e2]; congr 2; exact (List.map_drop ..).symm

theorem noTup_two (a : Ac s.heap x d ps) : NoTup s.heap [x, d] := by
  obtain ⟨hs, tk, ti, k, hd⟩ := a.dict
  exact noTup_app (W := [x]) (W' := [d]) (noTup_acc a) (noTup_dict hd rfl)

theorem reset1_c {l : Addr} {n2 : Nat} (gx : Gx w s.heap) (a : Ac s.heap x d ps) (hl : s.heap.get? l = some (lstObj (refs qs) n2)) (hq : PtsAt s.heap qs) (hz : ps.length ≤ 400) (hz' : qs.length ≤ 400) (lv : Lv 1 A)
    (ret : ∀ s', Go [x, d] s s' → Gx w s'.heap → Ac s'.heap x d qs → Q .none s') : wpAny (model Pg w) A (call (.ref 160) [.ref x, .ref l]) Q E s := by
  obtain ⟨n, hx⟩ := a.obj
  obtain ⟨hs, tk, ti, k, hd⟩ := a.dict
  have h1 := lv.room
  have hlx : l ≠ x := by
    rintro rfl
    rw [hx] at hl
    cases hl
  have hld : l ≠ d := by
    rintro rfl
    rw [hd] at hl
    exact absurd (congrArg (fun o : Obj => match o.data with | .dict _ _ => true | _ => false) (Option.some.inj hl)) (by first | exact nilT | exact nil1 | k_mem | simp)
  refine wpAny_call (reset1_ct gx.g hx hd hl (fa240 a.fx) (fa240 a.fd) a.ne hlx hld (by simp; (first | with_reducible exact Nat.le_trans (by assumption) (by decide) | omega)) (by simp; (first | with_reducible exact Nat.le_trans (by assumption) (by decide) | omega)) (by (first | with_reducible exact om_lt (by assumption) | omega)) fun s' n' ti' go e1 e2 => ret s' go (gx2 gx go a.fx a.fd) ⟨⟨n', e1⟩, ⟨hs, tk, ti', k, e2⟩, pts_step hq go.heap (noTup_two a), a.fx, a.fd⟩)

theorem reset0_c (gx : Gx w s.heap) (a : Ac s.heap x d ps) (hz : ps.length ≤ 400) (lv : Lv 1 A)
    (ret : ∀ s', Go [x, d] s s' → Gx w s'.heap → Ac s'.heap x d [] → Q .none s') : wpAny (model Pg w) A (call (.ref 160) [.ref x]) Q E s := by
  obtain ⟨n, hx⟩ := a.obj
  obtain ⟨hs, tk, ti, k, hd⟩ := a.dict
  have h1 := lv.room
  refine wpAny_call (reset0_ct gx.g hx hd (fa240 a.fx) (fa240 a.fd) a.ne (by simp; (first | with_reducible exact Nat.le_trans (by assumption) (by decide) | omega)) (by (first | with_reducible exact om_lt (by assumption) | omega)) fun s' n' ti' go e1 e2 => ret s' go (gx2 gx go a.fx a.fd) ⟨⟨n', e1⟩, ⟨hs, tk, ti', k, e2⟩, (fun q hq => nomatch hq), a.fx, a.fd⟩)

theorem count_c (gx : Gx w s.heap) (a : Ac s.heap x d ps) (lv : Lv 1 A) (ret : ∀ s' t', Go [] s s' → Gx w s'.heap → Ac s'.heap x d ps → Q (.int ps.length t') s') : wpAny (model Pg w) A (call (.ref 175) [.ref x]) Q E s := by
  obtain ⟨n, hx⟩ := a.obj
  have h1 := lv.room
  refine wpAny_call (part_count_ct gx.g hx (ne240 a.fx (by decide)) (by (first | with_reducible exact om_lt (by assumption) | omega)) fun s' t' go => ?_)
  have := ret s' t' go (gx.step go.heap (by first | exact nilT | exact nil1 | k_mem | simp)) (a.step go.heap (by first | exact nilT | exact nil1 | k_mem | simp) (by first | exact nilT | exact nil1 | k_mem | simp) noTup_nil)
  simpa using this

theorem onlyws_c (gx : Gx w s.heap) (a : Ac s.heap x d ps) (hz : ps.length ≤ 400) (ht : total ps ≤ 100000) (h0 : 0 < total ps) (hsp : Txt.isspace (lineTxt ps) = false) (lv : Lv 3 A)
    (ret : ∀ s', Go [140, 147] s s' → Gx w s'.heap → Ac s'.heap x d ps → Q (.bool false) s') : wpAny (model Pg w) A (call (.ref 167) [.ref x]) Q E s :=
  wpAny_call (onlyws_ct gx a hz ht h0 hsp lv ret)
end
end Mine.Internal
end

section
open PySem PySem.W PyProof.Rows PySem.Calls
set_option maxRecDepth 100000
set_option maxHeartbeats 4000000
set_option linter.unusedVariables false
namespace Mine.Internal

structure MkD (od : Obj) (mx : Int) (ll x : Addr) : Prop where
  maxlen : ∃ t, lookIn "_maxlen" od = some (some (.int mx t))
  split : ∃ t, lookIn "_splitchars" od = some (some (.str " " t))
  lines : lookIn "_lines" od = some (some (.ref ll))
  cur : lookIn "_current_line" od = some (some (.ref x))
  m1 : lookIn "newline" od = some none
  m2 : lookIn "_str" od = some none
  m3 : lookIn "_append_chunk" od = some none

structure Mk0 (h : Heap) (m dm ll x : Addr) (mx : Int) : Prop where
  obj : h.get? m = some (instObj 94 dm)
  dict : ∃ od, h.get? dm = some od ∧ MkD od mx ll x
noncomputable def LsAt (h : Heap) (ll : Addr) (ls : List Str) : Prop := ∃ l n, h.get? ll = some (lstObj (strValues l) n) ∧ l.map (·.1) = ls
structure Mk (h : Heap) (m dm ll x d : Addr) (mx : Int) (ls : List Str) (ps : List Pt) : Prop where
  m0 : Mk0 h m dm ll x mx
  lines : LsAt h ll ls
  acc : Ac h x d ps
  fl : (240 : Nat) ≤ ll
  fm : (240 : Nat) ≤ m
  fdm : (240 : Nat) ≤ dm
  ne : dm ≠ d

theorem Mk0.step {h h' : Heap} {m dm ll x : Addr} {mx : Int} {W : List Addr} (a : Mk0 h m dm ll x mx) (st : Step W h h') (h1 : m ∉ W) (h2 : dm ∉ W) : Mk0 h' m dm ll x mx :=
  ⟨st.keep _ _ h1 a.obj, let ⟨od, e, r⟩ := a.dict; ⟨od, st.keep _ _ h2 e, r⟩⟩
theorem ls_step {h h' : Heap} {ll : Addr} {ls : List Str} {W : List Addr} (a : LsAt h ll ls) (st : Step W h h') (h1 : ll ∉ W) : LsAt h' ll ls :=
  let ⟨l, n, e, r⟩ := a; ⟨l, n, st.keep _ _ h1 e, r⟩

theorem obj_ne {h : Heap} {a b : Addr} {o o' : Obj} (e : h.get? a = some o) (e' : h.get? b = some o') (hne : o ≠ o') : a ≠ b := by
  rintro rfl
  rw [e] at e'
  exact hne (Option.some.inj e')
theorem cls_ne {o o' : Obj} (h : (o.cls == o'.cls) = false) : o ≠ o' := by
  rintro rfl
  simp at h
theorem look_dict {name : Str} {od : Obj} {r : Option Value} (e : lookIn name od = some r) : ∃ es k, od.data = .dict es k := by
  obtain ⟨c, d, dt, sl⟩ := od
  cases dt with
  | dict es k => exact ⟨es, k, rfl⟩
  | _ => exact (show False from nomatch (show (none : Option (Option Value)) = some r from e)).elim
theorem dict_ne {h : Heap} {a b : Addr} {o o' : Obj} {es : Array DictEntry} {k : Nat} {xs : Array Value} {n : Nat} (e : h.get? a = some o) (e' : h.get? b = some o') (hd : o.data = .dict es k) (hs : o'.data = .seq xs n) : a ≠ b :=
  obj_ne e e' (by rintro rfl; rw [hd] at hs; cases hs)

section
variable {w : World} {A : Around} {E : Value → Shared → Prop} {s : Shared} {m dm ll x d : Addr} {mx : Int} {ls : List Str} {ps : List Pt} {h : Heap}

theorem Mk.out (M : Mk h m dm ll x d mx ls ps) : ∀ b ∈ ([140, 147, x, d, ll] : List Addr), b ≠ m ∧ b ≠ dm := by
  obtain ⟨n, ex⟩ := M.acc.obj
  obtain ⟨hs, tk, ti, k, ed⟩ := M.acc.dict
  obtain ⟨od, eo, D⟩ := M.m0.dict
  obtain ⟨es, ek, hdd⟩ := look_dict D.lines
  obtain ⟨l, n', el, _⟩ := M.lines
  exact in5 ⟨Ne.symm (ne240 M.fm (by decide)), Ne.symm (ne240 M.fdm (by decide))⟩ ⟨Ne.symm (ne240 M.fm (by decide)), Ne.symm (ne240 M.fdm (by decide))⟩ ⟨obj_ne ex M.m0.obj (cls_ne (by rfl)), Ne.symm (dict_ne eo ex hdd rfl)⟩ ⟨obj_ne ed M.m0.obj (cls_ne (by rfl)), Ne.symm M.ne⟩ ⟨obj_ne el M.m0.obj (cls_ne (by rfl)), Ne.symm (dict_ne eo el hdd rfl)⟩
theorem Mk.xl (M : Mk h m dm ll x d mx ls ps) : x ≠ ll ∧ d ≠ ll := by
  obtain ⟨n, ex⟩ := M.acc.obj
  obtain ⟨hs, tk, ti, k, ed⟩ := M.acc.dict
  obtain ⟨l, n', el, _⟩ := M.lines
  exact ⟨obj_ne ex el (cls_ne (by rfl)), dict_ne ed el rfl rfl⟩
theorem Mk.to {h' : Heap} {W : List Addr} {ls' : List Str} {ps' : List Pt} (M : Mk h m dm ll x d mx ls ps) (st : Step W h h') (hW : ∀ b ∈ W, b ∈ ([140, 147, x, d, ll] : List Addr) ∨ (b ≠ m ∧ b ≠ dm)) (a' : Ac h' x d ps') (l' : LsAt h' ll ls') : Mk h' m dm ll x d mx ls' ps' :=
  ⟨M.m0.step st (fun q => (hW _ q).elim (fun z => (M.out _ z).1 rfl) fun z => z.1 rfl) (fun q => (hW _ q).elim (fun z => (M.out _ z).2 rfl) fun z => z.2 rfl), l', a', M.fl, M.fm, M.fdm, M.ne⟩
theorem noTup_ls (l : LsAt h ll ls) : NoTup h [ll] := by
  intro b' hb f p t1 t2 e'
  obtain ⟨l, n, e, _⟩ := l
  rw [List.mem_singleton.mp hb, e] at e'
  exact cls_ne (by rfl) (Option.some.inj e')
theorem Mk.alive (M : Mk h m dm ll x d mx ls ps) : ∀ b ∈ ([m, dm, ll, x, d] : List Addr), ∃ o, h.get? b = some o := by
  obtain ⟨n, ex⟩ := M.acc.obj
  obtain ⟨hs, tk, ti, k, ed⟩ := M.acc.dict
  obtain ⟨od, eo, D⟩ := M.m0.dict
  obtain ⟨l, n', el, _⟩ := M.lines
  exact in5 ⟨_, M.m0.obj⟩ ⟨_, eo⟩ ⟨_, el⟩ ⟨_, ex⟩ ⟨_, ed⟩
theorem Mk.fresh {h' h₀ : Heap} {W : List Addr} (M : Mk h m dm ll x d mx ls ps) (st : Step W h h') (ha : ∀ b ∈ W, ∀ c ∈ ([m, dm, ll, x, d] : List Addr), b ≠ c) (hT : NoTup h W) : Mk h' m dm ll x d mx ls ps :=
  M.to st (fun b hb => .inr ⟨ha b hb m (by first | exact nilT | exact nil1 | k_mem | simp), ha b hb dm (by first | exact nilT | exact nil1 | k_mem | simp)⟩) (M.acc.step st (fun q => ha _ q x (by first | exact nilT | exact nil1 | k_mem | simp) rfl) (fun q => ha _ q d (by first | exact nilT | exact nil1 | k_mem | simp) rfl) hT) (ls_step M.lines st fun q => ha _ q ll (by first | exact nilT | exact nil1 | k_mem | simp) rfl)

theorem ga94 (w : World) : findIn (Kf w) (.ref 94) "__getattribute__" = some (some (.builtin "object.__getattribute__")) := by kernel_rfl
theorem gt94 (w : World) : findIn (Kf w) (.ref 94) "__getattr__" = some none := by kernel_rfl
theorem mk_get {name : Str} {v : Value} {od : Obj} {expr : Bool} {Q : Value → Shared → Prop} (g : Gr w s.heap) (hm : s.heap.get? m = some (instObj 94 dm)) (hd : s.heap.get? dm = some od) (hl : lookIn name od = some (some v)) (ha : findIn (Kf w) (.ref 94) name = some none) (hh : handedIn v = true)
    (h : Q v { s with toks := s.toks + 1 }) : wpAny (model Pg w) A (getAttr (.ref m) name expr) Q E s :=
  get_value (K := Kf w) (C := 94) (od := some od) g.X ⟨hm, rfl, rfl, hd⟩ (ga94 w) (findObj_own (K := Kf w) (attr := none) (by kernel_rfl) ha (by rfl) hl) hh h
theorem mk_cur {expr : Bool} {Q : Value → Shared → Prop} (g : Gr w s.heap) (M : Mk0 s.heap m dm ll x mx) (h : Q (.ref x) { s with toks := s.toks + 1 }) : wpAny (model Pg w) A (getAttr (.ref m) "_current_line" expr) Q E s := by
  obtain ⟨od, eo, D⟩ := M.dict
  exact mk_get g M.obj eo D.cur (by kernel_rfl) rfl h
theorem mk_lines {expr : Bool} {Q : Value → Shared → Prop} (g : Gr w s.heap) (M : Mk0 s.heap m dm ll x mx) (h : Q (.ref ll) { s with toks := s.toks + 1 }) : wpAny (model Pg w) A (getAttr (.ref m) "_lines" expr) Q E s := by
  obtain ⟨od, eo, D⟩ := M.dict
  exact mk_get g M.obj eo D.lines (by kernel_rfl) rfl h
theorem mk_max {expr : Bool} {Q : Value → Shared → Prop} (g : Gr w s.heap) (M : Mk0 s.heap m dm ll x mx) (h : ∀ t, Q (.int mx t) { s with toks := s.toks + 1 }) : wpAny (model Pg w) A (getAttr (.ref m) "_maxlen" expr) Q E s := by
  obtain ⟨od, eo, D⟩ := M.dict
  obtain ⟨t, e⟩ := D.maxlen
  exact mk_get g M.obj eo e (by kernel_rfl) rfl (h t)
theorem mk_split {expr : Bool} {Q : Value → Shared → Prop} (g : Gr w s.heap) (M : Mk0 s.heap m dm ll x mx) (h : ∀ t, Q (.str " " t) { s with toks := s.toks + 1 }) : wpAny (model Pg w) A (getAttr (.ref m) "_splitchars" expr) Q E s := by
  obtain ⟨od, eo, D⟩ := M.dict
  obtain ⟨t, e⟩ := D.split
  exact mk_get g M.obj eo e (by kernel_rfl) rfl (h t)
theorem mk_meth {name : Str} {f : Addr} {od : Obj} {pl : Sem Bool} {Q : Value × List Value → Shared → Prop} (g : Gr w s.heap) (hm : s.heap.get? m = some (instObj 94 dm)) (hd : s.heap.get? dm = some od) (hl : lookIn name od = some none) (hf : findIn (Kf w) (.ref 94) name = some (some (.ref f))) (ht : typeIn (Kf w) (.ref f) = some (.type "function"))
    (h : Q (.ref f, [.ref m]) s) : wpAny (model Pg w) A (getMethod (.ref m) name pl) Q E s :=
  method_fn (K := Kf w) (C := 94) (od := some od) g.X ⟨hm, rfl, rfl, hd⟩ (ga94 w) (gt94 w) hf ht (by show (lookIn name od).map _ = _; rw [hl]; rfl) h
theorem ac_meth {name : Str} {f tf : Value} {pl : Sem Bool} {Q : Value × List Value → Shared → Prop} (g : Gr w s.heap) (a : Ac s.heap x d ps) (hf : findIn (Kf w) (.ref 178) name = some (some f)) (ht : typeIn (Kf w) f = some tf) (hk : (tf != .type "function" && tf != .type "method_descriptor" && tf != .type "wrapper_descriptor") = false)
    (hl : (("_initial_size" : Str) == name) = false) (h : Q (f, [.ref x]) s) : wpAny (model Pg w) A (getMethod (.ref x) name pl) Q E s := by
  obtain ⟨n, ex⟩ := a.obj
  obtain ⟨hs, tk, ti, k, ed⟩ := a.dict
  refine acc_getMethod g ex ed hf ht hk ?_ h
  rw [lookIn_dict]
  unfold getL
  rw [List.find?_cons, show (Value.str "_initial_size" tk).isStr name = (("_initial_size" : Str) == name) from rfl, hl]
  rfl
end
end Mine.Internal
end

section
open PySem PySem.W PyProof.Rows PySem.Calls
set_option maxRecDepth 100000
set_option maxHeartbeats 4000000
set_option linter.unusedVariables false
namespace Mine.Internal

noncomputable abbrev muts (ll x d : Addr) : List Addr := [140, 147, x, d, ll]
structure Act (w : World) (s₀ : Shared) (L m dm ll x d : Addr) (mx : Int) (l : List (Str × Value)) (ls : List Str) (ps : List Pt) (s : Shared) : Prop where
  ns : s.heap.Ns L (mp l)
  gx : Gx w s.heap
  mkr : Mk s.heap m dm ll x d mx ls ps
  go : Go (muts ll x d) s₀ s
  dead : s₀.heap.get? L = none
  hi : (240 : Nat) ≤ L
  old : ∀ b ∈ ([m, dm, ll, x, d] : List Addr), ∃ o, s₀.heap.get? b = some o

theorem wXD {x d : Addr} : ∀ b ∈ ([x, d] : List Addr), b ∈ ([140, 147, x, d] : List Addr) := in2 (.tail _ (.tail _ (.head _))) (.tail _ (.tail _ (.tail _ (.head _))))
theorem w140 {x d : Addr} : ∀ b ∈ ([140] : List Addr), b ∈ ([140, 147, x, d] : List Addr) := in1 (.head _)
theorem w147 {x d : Addr} : ∀ b ∈ ([147] : List Addr), b ∈ ([140, 147, x, d] : List Addr) := in1 (.tail _ (.head _))
theorem len1 {α : Type} {l : List α} {a : α} {n m : Nat} (h : l.length ≤ n) (hn : n + 1 ≤ m) : (l ++ [a]).length ≤ m := by
  rw [List.length_append]
  exact Nat.le_trans (Nat.succ_le_succ h) hn
section
variable {w : World} {A : Around} {E : Value → Shared → Prop} {s₀ s s' : Shared} {L m dm ll x d : Addr} {mx : Int} {l l' : List (Str × Value)} {ls ls' : List Str} {ps ps' : List Pt}

theorem Act.lne (a : Act w s₀ L m dm ll x d mx l ls ps s) : ∀ b ∈ ([m, dm, ll, x, d] : List Addr), L ≠ b := fun b hb => by
  obtain ⟨o, e⟩ := a.old b hb
  exact Ne.symm (alive_ne e a.dead)
theorem Act.lmut (a : Act w s₀ L m dm ll x d mx l ls ps s) : L ∉ muts ll x d := fun hb =>
  in5 (P := fun b => L ≠ b) (ne240 a.hi (by decide)) (ne240 a.hi (by decide)) (a.lne x (.tail _ (.tail _ (.tail _ (.head _))))) (a.lne d (.tail _ (.tail _ (.tail _ (.tail _ (.head _)))))) (a.lne ll (.tail _ (.tail _ (.head _)))) _ hb rfl
theorem Act.acc {W : List Addr} (a : Act w s₀ L m dm ll x d mx l ls ps s) (go : Go W s s') (hW : ∀ b ∈ W, b ∈ ([140, 147, x, d] : List Addr)) (gx : Gx w s'.heap) (ac : Ac s'.heap x d ps') : Act w s₀ L m dm ll x d mx l ls ps' s' := by
  have hW' : ∀ b ∈ W, b ∈ muts ll x d := fun b hb => in4 (P := fun b => b ∈ muts ll x d) (.head _) (.tail _ (.head _)) (.tail _ (.tail _ (.head _))) (.tail _ (.tail _ (.tail _ (.head _)))) b (hW b hb)
  exact ⟨ns_step a.ns go.heap fun q => a.lmut (hW' _ q), gx, a.mkr.to go.heap (fun b hb => .inl (hW' b hb)) ac (ls_step a.mkr.lines go.heap fun q => in4 (P := fun b => ll ≠ b) (ne240 a.mkr.fl (by decide)) (ne240 a.mkr.fl (by decide)) (Ne.symm a.mkr.xl.1) (Ne.symm a.mkr.xl.2) _ (hW _ q) rfl), a.go.thn go fun b hb => .inl (hW' b hb), a.dead, a.hi, a.old⟩
theorem Act.ext {h' : Heap} {tk : Nat} (a : Act w s₀ L m dm ll x d mx l ls ps s) (st : Step [] s.heap h') : Act w s₀ L m dm ll x d mx l ls ps { s with heap := h', toks := tk } :=
  ⟨ns_step a.ns st (by first | exact nilT | exact nil1 | k_mem | simp), a.gx.step st (by first | exact nilT | exact nil1 | k_mem | simp), a.mkr.fresh (h₀ := s.heap) st (by first | exact nilT | exact nil1 | k_mem | simp) noTup_nil, a.go.thn (Go.of st) (by first | exact nilT | exact nil1 | k_mem | simp), a.dead, a.hi, a.old⟩
theorem Act.tk {tk : Nat} (a : Act w s₀ L m dm ll x d mx l ls ps s) : Act w s₀ L m dm ll x d mx l ls ps { s with toks := tk } := ⟨a.ns, a.gx, a.mkr, a.go.tk, a.dead, a.hi, a.old⟩
theorem Act.sto {h' : Heap} {tk : Nat} (a : Act w s₀ L m dm ll x d mx l ls ps s) (n : h'.Ns L (mp l')) (st : Step [L] s.heap h') : Act w s₀ L m dm ll x d mx l' ls ps { s with heap := h', toks := tk } :=
  ⟨n, a.gx.step st (by first | exact one1 (a.hi) | simpa using a.hi), a.mkr.fresh (h₀ := s.heap) st (in1 (a.lne)) (noTup_ns a.ns), a.go.thn (Go.of st) (in1 (.inr a.dead)), a.dead, a.hi, a.old⟩
theorem Act.lns {h' : Heap} {tk : Nat} (a : Act w s₀ L m dm ll x d mx l ls ps s) (n : LsAt h' ll ls') (st : Step [ll] s.heap h') : Act w s₀ L m dm ll x d mx l ls' ps { s with heap := h', toks := tk } :=
  ⟨ns_step a.ns st (one1 (a.lne ll (.tail _ (.tail _ (.head _))))), a.gx.step st (by first | exact one1 (a.mkr.fl) | simpa using a.mkr.fl), a.mkr.to st (by first | exact nilT | exact nil1 | k_mem | simp) (a.mkr.acc.step st (one1 a.mkr.xl.1) (one1 a.mkr.xl.2) (noTup_ls a.mkr.lines)) n, a.go.thn (Go.of st) (by first | exact nilT | exact nil1 | k_mem | simp), a.dead, a.hi, a.old⟩

theorem aSto {M : Model} {env : Env} {ks : List (Str × NameKind)} {y : Str} {v : Value} {Q : Unit → Shared → Prop} (a : Act w s₀ L m dm ll x d mx l ls ps s) (e : En env L ks)
    (h : ∀ s', Act w s₀ L m dm ll x d mx ((y, v) :: l) ls ps s' → Step [L] s.heap s'.heap → Q () s') (hl : ks.lookup y = some .local := by kernel_rfl) : wpAny M A (storeName env y v) Q E s :=
  rStoS e a.ns (fun h' n st => h _ (a.sto n st) st) hl

theorem strv_app (l : List (Str × Tok)) (v : Str) (t : Tok) : (strValues l).toArray.push (.str v t) = (strValues (l ++ [(v, t)])).toArray := by
  simp [strValues]
theorem ls_append {v : Str} {t : Tok} {Q : Value → Shared → Prop} (n : LsAt s.heap ll ls) (hz : ls.length ≤ 1000) (h : ∀ h', LsAt h' ll (ls ++ [v]) → Step [ll] s.heap h' → Q .none { s with heap := h' }) :
    wpAny (model Pg w) A (call (.builtin "list.append") [.ref ll, .str v t]) Q E s := by
  obtain ⟨l, n, e, hl⟩ := n
  refine wpAny_list_append_plain (items := (strValues l).toArray) ⟨n, e⟩ (fun h' pl sb => ?_) ?_
  · obtain ⟨n', e'⟩ := pl
    rw [strv_app] at e'
    exact h h' ⟨l ++ [(v, t)], n', e', by rw [List.map_append, hl]; rfl⟩ ⟨fun b o hb q => sb.extBut b o (by first | exact one1 (hb) | simpa using hb) q⟩
  · have : l.length = ls.length := by rw [← hl]; simp
    simp [strValues, sizeLine]
    (first | with_reducible exact om_lle (by assumption) (by assumption) (by decide) | omega)
theorem ls_meth {pl : Sem Bool} {Q : Value × List Value → Shared → Prop} (n : LsAt s.heap ll ls) (h : Q (.builtin "list.append", [.ref ll]) s) : wpAny (model Pg w) A (getMethod (.ref ll) "append" pl) Q E s := by
  obtain ⟨l, n, e, hl⟩ := n
  exact getMethod_list_append e rfl rfl h

theorem aCur {env : Env} {ks : List (Str × NameKind)} {p1 p2 : Pos} {Q : Value → Shared → Prop} (a : Act w s₀ L m dm ll x d mx l ls ps s) (e : En env L ks) (h : ∀ s', Act w s₀ L m dm ll x d mx l ls ps s' → s'.heap = s.heap → Q (.ref x) s')
    (hself : l.lookup ("self" : Str) = some (Value.ref m) := by kernel_rfl) (hks : ks.lookup ("self" : Str) = some .local := by kernel_rfl) : wpAny (model Pg w) A (eval (.Attribute (.Name "self" p1) "_current_line" p2) env) Q E s :=
  rAttr (rLcl e a.ns hself (mk_cur a.gx.g a.mkr.m0 (h _ a.tk rfl)) hks)
theorem aM {env : Env} {ks : List (Str × NameKind)} {name : Str} {f : Addr} {p1 p2 : Pos} {pl : Sem Bool} {Q : Value × List Value → Shared → Prop} (a : Act w s₀ L m dm ll x d mx l ls ps s) (e : En env L ks)
    (hf : findIn (Kf w) (.ref 178) name = some (some (.ref f))) (h : ∀ s', Act w s₀ L m dm ll x d mx l ls ps s' → s'.heap = s.heap → Q (.ref f, [.ref x]) s') (ht : typeIn (Kf w) (.ref f) = some (.type "function") := by kernel_rfl) (hl : (("_initial_size" : Str) == name) = false := by kernel_rfl)
    (hself : l.lookup ("self" : Str) = some (Value.ref m) := by kernel_rfl) (hks : ks.lookup ("self" : Str) = some .local := by kernel_rfl) :
    wpAny (model Pg w) A (eval (.Attribute (.Name "self" p1) "_current_line" p2) env) (fun ov s₁ => wpAny (model Pg w) A (getMethod ov name pl) Q E s₁) E s :=
  aCur a e (fun s' a' e' => ac_meth a'.gx.g a'.mkr.acc hf ht (by decide) hl (h _ a' e')) hself hks
theorem aL {env : Env} {ks : List (Str × NameKind)} {p1 p2 : Pos} {pl : Sem Bool} {Q : Value × List Value → Shared → Prop} (a : Act w s₀ L m dm ll x d mx l ls ps s) (e : En env L ks)
    (h : ∀ s', Act w s₀ L m dm ll x d mx l ls ps s' → s'.heap = s.heap → Q (.builtin "list.append", [.ref ll]) s')
    (hself : l.lookup ("self" : Str) = some (Value.ref m) := by kernel_rfl) (hks : ks.lookup ("self" : Str) = some .local := by kernel_rfl) :
    wpAny (model Pg w) A (eval (.Attribute (.Name "self" p1) "_lines" p2) env) (fun ov s₁ => wpAny (model Pg w) A (getMethod ov "append" pl) Q E s₁) E s :=
  rAttr (rLcl e a.ns hself (mk_lines a.gx.g a.mkr.m0 (ls_meth (s := { s with toks := s.toks + 1 }) a.mkr.lines (h _ a.tk rfl))) hks)
theorem aStr {env : Env} {ks : List (Str × NameKind)} {p0 p1 p2 pos : Pos} {Q : Value → Shared → Prop} (a : Act w s₀ L m dm ll x d mx l ls ps s) (e : En env L ks) (hz : ps.length ≤ 400) (ht : total ps ≤ 100000) (lv : Lv 2 A)
    (h : ∀ s' t, Act w s₀ L m dm ll x d mx l ls ps s' → Q (.str (lineTxt ps) t) s') (hkx : ks.lookup ("str" : Str) = some .globalImplicit := by kernel_rfl)
    (hself : l.lookup ("self" : Str) = some (Value.ref m) := by kernel_rfl) (hks : ks.lookup ("self" : Str) = some .local := by kernel_rfl) :
    wpAny (model Pg w) A (eval (.Call (.Name "str" p0) [.Attribute (.Name "self" p1) "_current_line" p2] [] pos) env) Q E s :=
  rCall (rBui e a.gx.g (v := .type "str") (by kernel_rfl) (rArgs (P := fun _ => True) (fun h q => ⟨.machine, .inr (.inl rfl), .of_pure rfl⟩) (wpAny_items_cons (aCur a e (fun s₁ a₁ e₁ => wpAny_items_nil ⟨trivial,
    bStr a₁.gx a₁.mkr.acc hz ht lv fun s₂ t₂ go₂ gx₂ ac₂ => h s₂ t₂ (a₁.acc go₂ (by first | exact nilT | exact wXD | exact w140 | exact w147 | simp) gx₂ ac₂)⟩) hself hks))) (by kernel_rfl) hkx)
theorem aLen {env : Env} {ks : List (Str × NameKind)} {p0 p1 p2 pos : Pos} {Q : Value → Shared → Prop} (a : Act w s₀ L m dm ll x d mx l ls ps s) (e : En env L ks) (hz : ps.length ≤ 400) (ht : total ps ≤ 100000) (lv : Lv 2 A)
    (h : ∀ s' t, Act w s₀ L m dm ll x d mx l ls ps s' → Q (.int (total ps) t) s') (hkx : ks.lookup ("len" : Str) = some .globalImplicit := by kernel_rfl)
    (hself : l.lookup ("self" : Str) = some (Value.ref m) := by kernel_rfl) (hks : ks.lookup ("self" : Str) = some .local := by kernel_rfl) :
    wpAny (model Pg w) A (eval (.Call (.Name "len" p0) [.Attribute (.Name "self" p1) "_current_line" p2] [] pos) env) Q E s :=
  rCall (rBui e a.gx.g (v := .builtin "len") (by kernel_rfl) (rArgs (P := fun _ => True) (fun h q => keep_bui h q) (wpAny_items_cons (aCur a e (fun s₁ a₁ e₁ => wpAny_items_nil ⟨trivial,
    bLen a₁.gx a₁.mkr.acc hz ht lv fun s₂ t₂ go₂ gx₂ ac₂ => h s₂ t₂ (a₁.acc go₂ (by first | exact nilT | exact wXD | exact w140 | exact w147 | simp) gx₂ ac₂)⟩) hself hks))) (by kernel_rfl) hkx)
end

theorem txt_eq {q q' : Pt} (hf : q'.f = q.f) (hp : q'.p = q.p) : q'.txt = q.txt ∧ q'.len = q.len := by
  unfold Pt.txt Pt.len
  rw [hf, hp]
  exact ⟨rfl, rfl⟩
theorem total_snoc (ps : List Pt) (q : Pt) : total (ps ++ [q]) = total ps + q.len := by
  unfold total
  simp
theorem line_snoc {ps : List Pt} {q q' : Pt} (hf : q'.f = q.f) (hp : q'.p = q.p) : lineTxt (ps ++ [q']) = lineTxt (ps ++ [q]) ∧ total (ps ++ [q']) = total (ps ++ [q]) := by
  rw [total_snoc, total_snoc]
  unfold lineTxt
  rw [List.map_append, List.map_append]
  simp only [List.map_cons, List.map_nil]
  rw [(txt_eq hf hp).1, (txt_eq hf hp).2]
  exact ⟨rfl, rfl⟩
end Mine.Internal
end

section
open PySem PySem.W PyProof.Rows PySem.Calls
set_option maxRecDepth 100000
set_option maxHeartbeats 4000000
set_option linter.unusedVariables false
namespace Mine.Internal

section
variable {A : Around} {E : Value → Shared → Prop} {s : Shared} {w : World} {x d : Addr} {xs : List Value} {n : Nat} {od : Obj} {Q : Value → Shared → Prop} {ps : List Pt}

theorem acc_getBound {name : Str} {f : Addr} {expr : Bool} (g : Gr w s.heap) (hx : s.heap.get? x = some (accObj d xs n)) (hd : s.heap.get? d = some od)
    (hf : findObj (Kf w) 178 (some od) name = some (.bind (.builtin "function.__get__") (.ref f))) (ht : typeIn (Kf w) (.ref f) = some (.type "function"))
    (h : Q (.ref s.heap.objs.size) { s with heap := s.heap.push (methodObj (.ref f) (.ref x)), toks := s.toks + 1 }) : wpAny (model Pg w) A (getAttr (.ref x) name expr) Q E s := by
  obtain ⟨hp, gg, dd, tt, oo⟩ := s
  dsimp only at g hx hd h
  have I := accI hx hd
  unfold getAttr getAttrBy
  refine wpAny_bind (wpAny_mkText (wpAny_holding (wpAny_bind (I.type.at (wpAny_bind ((looks_findIn g.X (ga178 w)).at ?_))))))
  show wpAny _ _ (getAttrByItsOwn _ _ _ _ _ _) _ _ _
  unfold getAttrByItsOwn hookBefore
  refine wpAny_bind (show wpAny _ _ (typeLookup (.ref 178) "__getattr__") _ _ _ from (looks_findIn g.X (gt178 w)).at ?_)
  refine wpAny_bind (wpAny_attempt (wpAny_holding ?_))
  have e : callGetattribute (.ref x) (.str name tt) (.builtin "list.__getattribute__") expr = boundAndCalled (.builtin "list.__getattribute__") (.ref x) (.str name tt) := by
    unfold callGetattribute
    rw [if_neg]
    simp [onTheHeap]
  rw [e]
  unfold boundAndCalled
  have hb : bindSpecial (.builtin "list.__getattribute__") (.ref x) = pure (.builtin "list.__getattribute__", [.ref x]) := by kernel_rfl
  rw [hb]
  refine wpAny_bind (wpAny_pure ?_)
  refine acc_call (m := "__getattribute__") (s := ⟨hp, gg, dd, tt + 1, oo⟩) g hx (.inl (by decide +kernel)) (by decide +kernel) (by decide +kernel) PySem.F.entry_list_ga (PySem.F.args_list_getattribute_2 _ _) ?_
  refine wpAny_bind (wpAny_pure (wpAny_bind (wpAny_pure (wpAny_bind (I.type.at (wpAny_bind ((looks_find g.X I hf).at ?_)))))))
  show wpAny _ _ (holding [.ref f] (call (.builtin "function.__get__") [.ref f, .ref x, .ref 178]) >>= ret) _ _ _
  refine wpAny_bind (wpAny_holding (wpAny_call (fn_get (K := Kf w) g.X ht (wpAny_pure ⟨_, rfl, ?_⟩))))
  show wpAny _ _ (handedOut _) _ _ _
  rw [handedOut_of rfl]
  exact wpAny_pure h
end

theorem rStar {M : Model} {A : Around} {E : Value → Shared → Prop} {s : Shared} {env : Env} {o : Expr} {name : Str} {apos pos : Pos} {args : List Expr} {Q : Value → Shared → Prop}
    (h : wpAny M A (eval o env) (fun ov s₁ => wpAny M A (getAttr ov name true) (fun f s₂ => wpAny M A (callWith pos f [] (backTo pos (starEach args env)) (backToKw pos (keywordEach [] env))) Q E s₂) E s₁) E s)
    (he : eval (.Call (.Attribute o name apos) args [] pos) env = (do
      let ov ← eval o env
      standAt apos.atName
      let (f, first) ← holding [ov] (do pure (← getAttr ov name true, []))
      callWith pos f first (backTo pos (starEach args env)) (backToKw pos (keywordEach [] env))) := by rfl) :
    wpAny M A (eval (.Call (.Attribute o name apos) args [] pos) env) Q E s := by
  rw [he]
  exact wpAny_bind (wpAny_mono h (fun ov s₁ h₁ => wpAny_bind (wpAny_standAt (wpAny_bind (wpAny_holding (wpAny_bind (wpAny_mono h₁ (fun f s₂ h₂ => wpAny_pure h₂) fun _ _ x => x)))))) fun _ _ x => x)

theorem star_pair {w : World} {A : Around} {E : Value → Shared → Prop} {s : Shared} {q : Pt} {Q : List Value → Shared → Prop} (h : s.heap.get? q.a = some q.obj) (hq : ∀ h', Step [] s.heap h' → Q [.str q.f q.t1, .str q.p q.t2] { s with heap := h' }) : StarOf (model Pg w) A E (.ref q.a) Q s := by
  have hT' : s.TypeIs (.ref q.a) "tuple" := ⟨_, h, rfl⟩
  unfold StarOf notIterableAtAll
  exact wpAny_bind (wpAny_specialOf hT' PySem.F.slot_tuple_iter.lookup (wpAny_pure ⟨rfl, wpAny_collect_seq q.a (.inr rfl) h rfl rfl (fun h' hk => hq h' ⟨fun b o _ e => hk b o e⟩)⟩))

section
variable {w : World} {A : Around} {R : Result → Shared → Prop} {s : Shared} {m dm ll x d : Addr} {mx : Int} {ls : List Str} {ps : List Pt} {q : Pt}

theorem push_k {f p : Str} {t1 t2 : Tok} (gx : Gx w s.heap) (a : Ac s.heap x d ps) (hz : ps.length ≤ 400) (lv : Lv 1 A)
    (ret : ∀ s' t, Go [x] s s' → Gx w s'.heap → Ac s'.heap x d (ps ++ [⟨t, f, p, t1, t2⟩]) → s.heap.get? t = none → R (.ok (.ret .none)) s') : codeAny (model Pg w) A (.call (.ref 122) ⟨[.ref x, .str f t1, .str p t2], []⟩) R s := by
  obtain ⟨n, hx⟩ := a.obj
  obtain ⟨hs, tk, ti, k, hd⟩ := a.dict
  have h1 := lv.room
  refine push_ct gx.g hx hd (Ne.symm a.ne) (fa240 a.fx) (by kernel_rfl) (by simp; omega) (by (first | with_reducible exact om_lt (by assumption) | omega)) fun s' n' t go e1 e2 hf => ret s' t go (gx1 gx go a.fx) ⟨⟨n', ?_⟩, ⟨hs, tk, ti, k, go.heap.keep _ _ (by first | exact one1 (Ne.symm a.ne) | simpa using Ne.symm a.ne) hd⟩, ?_, a.fx, a.fd⟩ hf
  · rw [refs_app]; exact e1
  · intro q hq
    rcases List.mem_append.mp hq with hq | hq
    · exact pts_step a.pts go.heap (noTup_acc a) q hq
    · rw [List.mem_singleton.mp hq]; exact e2

theorem act_in {L : Addr} {h₁ : Heap} {l : List (Str × Value)} {tk : Nat} (gx : Gx w s.heap) (M : Mk s.heap m dm ll x d mx ls ps) (n : h₁.Ns L (mp l)) (st : Step [] s.heap h₁) (hL : s.heap.get? L = none) (hL' : (240 : Nat) ≤ L) :
    Act w s L m dm ll x d mx l ls ps { s with heap := h₁, toks := tk } :=
  ⟨n, gx.step st (by first | exact nilT | exact nil1 | k_mem | simp), M.fresh (h₀ := s.heap) st (by first | exact nilT | exact nil1 | k_mem | simp) noTup_nil, Go.of (st.mono (by first | exact nilT | exact nil1 | k_mem | simp)), hL, hL', M.alive⟩

theorem newline_ct (gx : Gx w s.heap) (M : Mk s.heap m dm ll x d mx ls (ps ++ [q])) (hq : (q.p == ("" : Str)) = false) (hz : ps.length ≤ 300) (ht : total (ps ++ [q]) ≤ 100000) (h0 : 0 < total (ps ++ [q])) (hsp : Txt.isspace (lineTxt (ps ++ [q])) = false) (hls : ls.length ≤ 300) (lv : Lv 5 A)
    (ret : ∀ s', Go (muts ll x d) s s' → Gx w s'.heap → Mk s'.heap m dm ll x d mx (ls ++ [lineTxt (ps ++ [q])]) [] → R (.ok (.ret .none)) s') : codeAny (model Pg w) A (.call (.ref 56) ⟨[.ref m], []⟩) R s := by
  have h1 := lv.room
  have h2 := lv.line
  refine enterS (binds := [("self", .ref m)]) gx.g lv.in_ (by k_is) rfl rfl (by kernel_rfl) (BindsTo.of_eq (by kernel_rfl)) (by kernel_rfl) (by kernel_rfl) rfl rfl rfl rfl rfl fun L h₁ env he e n₁ st₁ hL hL' => ?_
  refine gen fun T₀ E₀ hT₀ => ?_
  have a := act_in (w := w) (tk := s.toks + 1) gx M n₁ st₁ hL hL'
  have lv4 : Lv 4 (A.deeper env) := lv.deep
  have lv3 : Lv 3 (A.deeper env) := lv4.down (Nat.le_add_right ..) (Nat.le_add_right ..)
  have lv2 : Lv 2 (A.deeper env) := lv3.down (Nat.le_add_right ..) (Nat.le_add_right ..)
  have lv1 : Lv 1 (A.deeper env) := lv2.down (Nat.le_add_right ..) (Nat.le_add_right ..)
  refine wpAny_execs_cons (gen fun Y1 Z1 g1 => wpAny_Assign_Name (methodCall_KW (kws := []) (aM a e (f := 138) (by kernel_rfl) fun s₂ a₂ _ => callWith_K0 (K := Kf w) a₂.gx.g.X (by kernel_rfl) ?_)))
  refine pop_c a₂.gx a₂.mkr.acc (by (first | with_reducible exact Nat.le_trans (by assumption) (by decide) | omega)) lv1 fun s₃ go₃ gx₃ ac₃ hq₃ => ?_
  have a₃ := a₂.acc go₃ (by first | exact nilT | exact wXD | exact w140 | exact w147 | simp) gx₃ ac₃
  refine aSto a₃ e fun s₄ a₄ st₄ => g1 _ _ ?_
  have hq₄ : s₄.heap.get? q.a = some q.obj := st₄.keep _ _ (fun z => noTup_ns a₃.ns _ z _ _ _ _ hq₃) hq₃
  refine wpAny_execs_cons (wpAny_If (gen fun Y2 Z2 g2 => wpAny_isTrue_Compare1 (rLcl e a₄.ns (v := .ref q.a) (by kernel_rfl) (wpAny_Tuple (wpAny_items_cons (wpAny_Constant_str (wpAny_items_cons (wpAny_Constant_str (wpAny_items_nil ⟨(by first | exact Nat.le_of_ble_eq_true rfl | simp [sizeLine]), ?_⟩)))))))))
  have a₅ := (a₄.ext (tk := s₄.toks + 2) (Step.push s₄.heap (tupObj " " "" s₄.toks (s₄.toks + 1))))
  have hq₅ := (Step.push s₄.heap (tupObj " " "" s₄.toks (s₄.toks + 1))).keep _ _ (by first | exact nilT | exact nil1 | k_mem | simp) hq₄
  refine SeqAt.RcNeAt.tuples (l := q.a) (items := [Value.str q.f q.t1, Value.str q.p q.t2].toArray) (items2 := [Value.str " " s₄.toks, Value.str "" (s₄.toks + 1)].toArray) (e := fun j => if j = 0 then q.f == " " else q.p == "") ⟨_, hq₅, rfl, 0, rfl⟩ ⟨_, Heap.get?_push_size _ rfl, rfl, 0, rfl⟩ (by show A.units + 3 < _; (first | with_reducible exact om_ltd (by assumption) (by decide) | omega)) ?_ Pg w _ _ ?_
  · intro j h1 h2
    have : j = 0 ∨ j = 1 := by simp at h1; omega
    rcases this with rfl | rfl
    · exact SeqAt.EqAt.str_str _ _ _ _
    · exact SeqAt.EqAt.str_str _ _ _ _
  · have hb : (!((List.range (min [Value.str q.f q.t1, Value.str q.p q.t2].toArray.size [Value.str " " s₄.toks, Value.str "" (s₄.toks + 1)].toArray.size)).all (fun j => if j = 0 then q.f == " " else q.p == "") && [Value.str q.f q.t1, Value.str q.p q.t2].toArray.size == [Value.str " " s₄.toks, Value.str "" (s₄.toks + 1)].toArray.size)) = true := by
      show (!((List.range 2).all (fun j => if j = 0 then q.f == " " else q.p == "") && _)) = true
      simp [List.range_succ, hq]
    rw [hb]
    refine wpAny_truthy_bool (g2 _ _ (if_tt ?_))
    refine wpAny_execs_cons (gen fun Y3 Z3 g3 => wpAny_Expr (rStar (aCur a₅ e fun s₆ a₆ e₆ => ?_)) e.inter)
    obtain ⟨n₆, ex₆⟩ := a₆.mkr.acc.obj
    obtain ⟨hs₆, tk₆, ti₆, k₆, ed₆⟩ := a₆.mkr.acc.dict
    refine acc_getBound (f := 122) a₆.gx.g ex₆ ed₆ (by kernel_rfl) (by kernel_rfl) ?_
    have a₇ := a₆.ext (tk := s₆.toks + 1) (Step.push s₆.heap (methodObj (.ref 122) (.ref x)))
    have e₆' : s₆.heap = s₄.heap.push (tupObj " " "" s₄.toks (s₄.toks + 1)) := e₆
    have hq₆ : s₆.heap.get? q.a = some q.obj := by rw [e₆']; exact hq₅
    have hq₇ := (Step.push s₆.heap (methodObj (.ref 122) (.ref x))).keep _ _ (by first | exact nilT | exact nil1 | k_mem | simp) hq₆
    have hm₇ : (s₆.heap.push (methodObj (.ref 122) (.ref x))).get? s₆.heap.objs.size = some (methodObj (.ref 122) (.ref x)) := Heap.get?_push_size _ rfl
    refine ks_call (P := MethP (Kf w) s₆.heap.objs.size 122 (.ref x)) rfl (keeps_M (by kernel_rfl)) (ks_lone (rLcl e a₇.ns (v := .ref q.a) (by kernel_rfl) (star_pair hq₇ fun h₈ st₈ => ?_)))
    have a₈ := a₇.ext (tk := s₆.toks + 1) st₈
    refine ⟨⟨st₈.keep _ _ (by first | exact nilT | exact nil1 | k_mem | simp) hm₇, a₈.gx.g.X⟩, wpAny_call (method_call (st₈.keep _ _ (by first | exact nilT | exact nil1 | k_mem | simp) hm₇) ?_)⟩
    refine push_k a₈.gx a₈.mkr.acc (by (first | with_reducible exact Nat.le_trans (by assumption) (by decide) | omega)) lv1 fun s₉ t₉ go₉ gx₉ ac₉ _ => ?_
    have a₉ := a₈.acc go₉ (by first | exact nilT | exact wXD | exact w140 | exact w147 | simp) gx₉ ac₉
    obtain ⟨eq1, eq2⟩ := line_snoc (ps := ps) (q := q) (q' := ⟨t₉, q.f, q.p, q.t1, q.t2⟩) rfl rfl
    refine g3 _ _ (wpAny_execs_nil ?_)
    refine wpAny_execs_cons (wpAny_If (gen fun Y4 Z4 g4 => wpAny_isTrue_Compare1 (aLen a₉ e (by first | exact len1 (by assumption) (by decide) | (simp; omega)) (by rw [eq2]; exact ht) lv2 fun sA tA aA => wpAny_Constant_int (PyProof.Rows.gt_int (wpAny_truthy_bool ?_)))))
    rw [eq2]
    have hd0 : decide ((0 : Int) < ((total (ps ++ [q]) : Nat) : Int)) = true := by simp; (first | with_reducible assumption | omega)
    rw [hd0]
    refine g4 _ _ (if_tt ?_)
    refine wpAny_execs_cons (wpAny_If (gen fun Y5 Z5 g5 => wpAny_isTrue_BoolOp (wpAny_allTrue_And_cons (wpAny_isTrue_value (methodCall_KW (kws := []) (aM aA.tk e (f := 167) (by kernel_rfl) fun sB aB _ => callWith_K0 (K := Kf w) aB.gx.g.X (by kernel_rfl) ?_))))))
    refine onlyws_c aB.gx aB.mkr.acc (by first | exact len1 (by assumption) (by decide) | (simp; omega)) (by rw [eq2]; exact ht) (by rw [eq2]; exact h0) (by rw [eq1]; exact hsp) lv3 fun sC goC gxC acC => ?_
    have aC := aB.acc goC (by first | exact nilT | exact wXD | exact w140 | exact w147 | simp) gxC acC
    refine wpAny_truthy_bool (if_ff (g5 _ _ ?_))
    refine wpAny_execs_cons (gen fun Y6 Z6 g6 => wpAny_Expr (methodCall_KW (kws := []) (aL aC e fun sD aD _ => rArgs (P := fun _ => True) (fun h q => keep_bui h q) (wpAny_items_cons (aStr aD e (by first | exact len1 (by assumption) (by decide) | (simp; omega)) (by rw [eq2]; exact ht) lv2 fun sE tE aE => wpAny_items_nil ⟨trivial,
      ls_append aE.mkr.lines (by (first | with_reducible exact Nat.le_trans (by assumption) (by decide) | omega)) fun hF nF stF => g6 _ _ ?_⟩)))) e.inter)
    have aF := aE.lns (tk := sE.toks) nF stF
    refine wpAny_execs_nil (wpAny_execs_nil ?_)
    refine wpAny_execs_cons (gen fun Y7 Z7 g7 => wpAny_Expr (methodCall_KW (kws := []) (aM aF e (f := 160) (by kernel_rfl) fun sG aG _ => callWith_K0 (K := Kf w) aG.gx.g.X (by kernel_rfl) ?_)) e.inter)
    refine reset0_c aG.gx aG.mkr.acc (by first | exact len1 (by assumption) (by decide) | (simp; omega)) lv1 fun sH goH gxH acH => g7 _ _ (wpAny_execs_nil ?_)
    have aH := aG.acc goH (by first | exact nilT | exact wXD | exact w140 | exact w147 | simp) gxH acH
    rw [eq1] at aH
    exact hT₀ _ _ (ret _ aH.go aH.gx aH.mkr)
end
end Mine.Internal
end

section
open PySem PySem.W PyProof.Rows PySem.Calls
set_option maxRecDepth 100000
set_option maxHeartbeats 4000000
set_option linter.unusedVariables false
namespace Mine.Internal

theorem strsAre (l : List (Str × Tok)) : StrsAre (strValues l) (l.map (·.1)) := by
  induction l with
  | nil => exact .nil
  | cons p l ih => exact .cons _ _ ih
theorem ls_isList {h : Heap} {ll : Addr} {ls : List Str} (n : LsAt h ll ls) : ∃ items : Array Value, h.IsList ll items ∧ StrsAre items.toList ls := by
  obtain ⟨l, n, e, rfl⟩ := n
  exact ⟨_, ⟨_, e, rfl, n, rfl⟩, strsAre l⟩

section
variable {w : World} {A : Around} {R : Result → Shared → Prop} {s : Shared} {m dm ll x d : Addr} {mx : Int} {ls : List Str} {ps : List Pt} {q : Pt}

theorem str_m_ct {sep : Str} {tk : Tok} (gx : Gx w s.heap) (M : Mk s.heap m dm ll x d mx ls (ps ++ [q])) (hq : (q.p == ("" : Str)) = false) (hz : ps.length ≤ 300) (ht : total (ps ++ [q]) ≤ 100000) (h0 : 0 < total (ps ++ [q])) (hsp : Txt.isspace (lineTxt (ps ++ [q])) = false) (hls : ls.length ≤ 300)
    (hsep : sep.length ≤ 16) (hw : ((ls ++ [lineTxt (ps ++ [q])]).map (·.length)).sum + (ls ++ [lineTxt (ps ++ [q])]).length ≤ 1048576) (lv : Lv 6 A)
    (ret : ∀ s' t, Go (muts ll x d) s s' → Gx w s'.heap → R (.ok (.ret (.str (Txt.join sep (ls ++ [lineTxt (ps ++ [q])])) t))) s') : codeAny (model Pg w) A (.call (.ref 42) ⟨[.ref m, .str sep tk], []⟩) R s := by
  have h1 := lv.room
  have h2 := lv.line
  refine enterS (binds := [("self", .ref m), ("linesep", .str sep tk)]) gx.g lv.in_ (by k_is) rfl rfl (by kernel_rfl) (BindsTo.of_eq (by kernel_rfl)) (by kernel_rfl) (by kernel_rfl) rfl rfl rfl rfl rfl fun L h₁ env he e n₁ st₁ hL hL' => ?_
  have a := act_in (w := w) (tk := s.toks + 2) gx M n₁ st₁ hL hL'
  have lv5 : Lv 5 (A.deeper env) := lv.deep
  obtain ⟨od, eo, D⟩ := a.mkr.m0.dict
  refine wpAny_execs_cons (wpAny_Expr (methodCall_KW (kws := []) (rLcl e a.ns (v := .ref m) (by kernel_rfl) (mk_meth a.gx.g a.mkr.m0.obj eo D.m1 (f := 56) (by kernel_rfl) (by kernel_rfl) (callWith_K0 (K := Kf w) a.gx.g.X (by kernel_rfl) (wpAny_call ?_))))) e.inter)
  refine newline_ct a.gx a.mkr hq hz ht h0 hsp hls lv5 fun s₂ go₂ gx₂ M₂ => ?_
  have n₂ : s₂.heap.Ns L _ := ns_step a.ns go₂.heap a.lmut
  refine wpAny_execs_cons (wpAny_Return_some (methodCall_KW (kws := []) (rLcl e n₂ (v := .str sep tk) (by kernel_rfl) (GM.join ?_))))
  refine rArgs (P := fun _ => True) (fun h q => keep_bui h q) (wpAny_items_cons (rAttr (rLcl e n₂ (v := .ref m) (by kernel_rfl) (mk_lines gx₂.g M₂.m0 (wpAny_items_nil ⟨trivial, ?_⟩)))))
  obtain ⟨items, il, ia⟩ := ls_isList M₂.lines
  refine join_listW il ia hsep hw fun t' k => ?_
  exact ret _ _ (((Go.of (tk := s.toks) st₁).heap.mono (W' := muts ll x d) (by first | exact nilT | exact nil1 | k_mem | simp) |> fun z => (⟨z, id, rfl⟩ : Go (muts ll x d) s { s with heap := h₁, toks := s.toks + 2 })).thn go₂ (fun b hb => .inl hb)).tk gx₂
end
end Mine.Internal
end

section
open PySem PySem.W PyProof.Rows PySem.Calls
set_option maxRecDepth 100000
set_option maxHeartbeats 4000000
set_option linter.unusedVariables false
namespace Mine.Internal

structure Nw (s₀ : Shared) (L m dm ll x d b : Addr) : Prop where
  dead : s₀.heap.get? b = none
  ne : b ≠ L
  hi : (240 : Nat) ≤ b
  off : ∀ c ∈ ([m, dm, ll, x, d] : List Addr), b ≠ c

section
variable {w : World} {A : Around} {E : Value → Shared → Prop} {s₀ s s' : Shared} {L m dm ll x d b : Addr} {mx : Int} {l l' : List (Str × Value)} {ls ls' : List Str} {ps ps' : List Pt}

theorem Act.nw (a : Act w s₀ L m dm ll x d mx l ls ps s) : Nw s₀ L m dm ll x d s.heap.objs.size := by
  have hD := dead_size s.heap
  have hi : (240 : Nat) ≤ s.heap.objs.size := a.gx.g.size
  have off : ∀ c ∈ ([m, dm, ll, x, d] : List Addr), s.heap.objs.size ≠ c := fun c hc => by
    obtain ⟨o, e⟩ := a.mkr.alive c hc
    exact Ne.symm (alive_ne e hD)
  refine ⟨dead_back a.go.heap ?_ hD, ?_, hi, off⟩
  · simp only [muts, List.mem_cons, List.not_mem_nil, or_false, not_or]
    exact ⟨ne240 hi (by decide), ne240 hi (by decide), off x (by first | exact nilT | exact nil1 | k_mem | simp), off d (by first | exact nilT | exact nil1 | k_mem | simp), off ll (by first | exact nilT | exact nil1 | k_mem | simp)⟩
  · obtain ⟨o, es, ep, e, _⟩ := a.ns
    exact Ne.symm (alive_ne e hD)
theorem Act.oth {h' : Heap} {tk : Nat} (a : Act w s₀ L m dm ll x d mx l ls ps s) (n : Nw s₀ L m dm ll x d b) (nt : NoTup s.heap [b]) (st : Step [b] s.heap h') : Act w s₀ L m dm ll x d mx l ls ps { s with heap := h', toks := tk } :=
  ⟨ns_step a.ns st (by first | exact one1 (Ne.symm n.ne) | simpa using Ne.symm n.ne), a.gx.step st (by first | exact one1 (n.hi) | simpa using n.hi), a.mkr.fresh (h₀ := s.heap) st (in1 (n.off)) nt, a.go.thn (Go.of st) (in1 (.inr n.dead)), a.dead, a.hi, a.old⟩
theorem noTup_of {h : Heap} {b : Addr} {o : Obj} (e : h.get? b = some o) (hc : (o.cls == .type "tuple") = false) : NoTup h [b] := by
  intro b' hb f p t1 t2 e'
  rw [List.mem_singleton.mp hb, e] at e'
  cases e'
  cases hc
theorem stepOf {b : Addr} {h h' : Heap} (sb : Heap.SameBut b h h') : Step [b] h h' := ⟨fun c o hc e => sb.extBut c o (by first | exact one1 (hc) | simpa using hc) e⟩
theorem stepExt {b : Addr} {h h' : Heap} (sb : Heap.ExtBut b h h') : Step [b] h h' := ⟨fun c o hc e => sb c o (by first | exact one1 (hc) | simpa using hc) e⟩

theorem keep_fn {w : World} {f : Addr} (hk : keepIn (Kf w) (.ref f) = true) (h : Heap) (g : Gr w h) : ∃ k, (k = Keeper.frame ∨ k = Keeper.machine ∨ k = Keeper.boundFrame) ∧ Looks (model Pg w) h (keeperOf (.ref f)) k := keeps_K hk h g.X
end

section
variable {w : World} {A : Around} {R : Result → Shared → Prop} {s : Shared} {m dm ll x d : Addr} {mx : Int} {ls : List Str} {ps : List Pt} {gap word : Str} {t1 t2 : Tok}

theorem append_small (gx : Gx w s.heap) (M : Mk s.heap m dm ll x d mx ls ps) (hz : ps.length ≤ 300) (ht : total ps + gap.length + word.length ≤ 100000) (hm : ¬ mx < ((total ps + gap.length + word.length : Nat) : Int)) (lv : Lv 6 A)
    (ret : ∀ s' q, q.f = gap → q.p = word → Go (muts ll x d) s s' → Gx w s'.heap → Mk s'.heap m dm ll x d mx ls (ps ++ [q]) → R (.ok (.ret .none)) s') : codeAny (model Pg w) A (.call (.ref 91) ⟨[.ref m, .str gap t1, .str word t2], []⟩) R s := by
  have h1 := lv.room
  have h2 := lv.line
  refine enterS (binds := [("self", .ref m), ("fws", .str gap t1), ("string", .str word t2)]) gx.g lv.in_ (by k_is) rfl rfl (by kernel_rfl) (BindsTo.of_eq (by kernel_rfl)) (by kernel_rfl) (by kernel_rfl) rfl rfl rfl rfl rfl fun L h₁ env he e n₁ st₁ hL hL' => ?_
  have a := act_in (w := w) (tk := s.toks + 3) gx M n₁ st₁ hL hL'
  have lv5 : Lv 5 (A.deeper env) := lv.deep
  have lv2 : Lv 2 (A.deeper env) := lv5.less (by decide)
  have lv1 : Lv 1 (A.deeper env) := lv5.less (by decide)
  refine wpAny_execs_cons (wpAny_Expr (methodCall_KW (kws := []) (aM a e (f := 122) (by kernel_rfl) fun s₂ a₂ _ => rArgs (P := fun h => Gr w h) (keep_fn (by kernel_rfl)) (wpAny_items_cons (rLcl e a₂.ns (v := .str gap t1) (by kernel_rfl) (wpAny_items_cons (rLcl e a₂.ns (v := .str word t2) (by kernel_rfl) (wpAny_items_nil ⟨a₂.gx.g, ?_⟩))))))) e.inter)
  refine push_c a₂.gx a₂.mkr.acc (by (first | with_reducible exact Nat.le_trans (by assumption) (by decide) | omega)) lv1 fun s₃ t₃ go₃ gx₃ ac₃ _ => ?_
  have a₃ := a₂.acc go₃ (by first | exact nilT | exact wXD | exact w140 | exact w147 | simp) gx₃ ac₃
  have tt : total (ps ++ [⟨t₃, gap, word, t1, t2⟩]) = total ps + gap.length + word.length := by rw [total_snoc]; unfold Pt.len; simp only; omega
  refine wpAny_execs_cons (wpAny_If (wpAny_isTrue_Compare1 (aLen a₃ e (by first | exact len1 (by assumption) (by decide) | (simp; omega)) (by rw [tt]; exact ht) lv2 fun s₄ t₄ a₄ => rAttr (rLcl e a₄.ns (v := .ref m) (by kernel_rfl) (mk_max a₄.gx.g a₄.mkr.m0 fun t₅ => PyProof.Rows.gt_int (wpAny_truthy_bool ?_))))))
  rw [tt, decide_eq_false hm]
  refine if_ff (wpAny_execs_nil (wpAny_execs_nil ?_))
  have a₅ := a₄.tk (tk := s₄.toks + 1)
  exact ret _ _ rfl rfl a₅.go a₅.gx a₅.mkr
end
end Mine.Internal
end

section
open PySem PySem.W PyProof.Rows PySem.Calls
set_option maxRecDepth 100000
set_option maxHeartbeats 4000000
set_option linter.unusedVariables false
namespace Mine.Internal

theorem rangeSize_down (k : Nat) : Builtin.Range.rangeSize ((k : Nat) : Int) 0 (-1) = k := by
  unfold Builtin.Range.rangeSize
  simp only [show ¬ ((-1 : Int) > 0) by decide, if_false]
  by_cases h : ((k : Int) > 0)
  · simp only [h, if_true, Int.neg_neg, Int.ediv_one]
    omega
  · simp only [h, if_false]
    omega
theorem small_down (k : Nat) (hk : k ≤ 1000) : Builtin.Range.small ((k : Nat) : Int) 0 (-1) = true := by
  unfold Builtin.Range.small
  rw [rangeSize_down]
  simp only [Builtin.Range.rangeFitsLong, Bool.and_eq_true, Bool.or_eq_true, decide_eq_true_eq, beq_iff_eq, show ¬ ((-1 : Int) > 0) by decide, if_false]
  refine ⟨⟨⟨⟨⟨?_, ?_⟩, ?_, ?_⟩, ?_, ?_⟩, ?_, ?_⟩, ?_⟩ <;> omega

theorem idx0 {y : Str} {c : Nat} (h : y.cps[0]? = some c) : (seqIndex? 0 y.length).bind (y.cps[·]?) = some c := by
  have h0 : 0 < y.cps.size := (Array.getElem?_eq_some_iff.mp h).1
  have e : seqIndex? 0 y.length = some 0 := by
    unfold seqIndex? Str.length
    simp [h0]
  rw [e]
  exact h

theorem any_tail {w : World} {A : Around} {E : Value → Shared → Prop} {s : Shared} {value slice : Expr} {o i : Value} {T id : String} {Q : Value → Shared → Prop} (hT : s.TypeIs o T) (hl : typeLookup (.type T) "__getitem__" = pure (some (.builtin id))) (h : wpAny (model Pg w) A (getItem o i) Q E s)
    (hs : ∃ l, subscripted slice false o i = operate l (getItem o i)) : wpAny (model Pg w) A (subscriptTail value slice o i) Q E s := by
  unfold subscriptTail
  refine wpAny_bind ?_
  rw [getitemInPython_of_ne hT.not_modules]
  refine wpAny_bind (wpAny_specialOf hT hl ?_)
  obtain ⟨l, hs⟩ := hs
  have fin : wpAny (model Pg w) A (subscripted slice false o i) (fun r s₃ => wpAny (model Pg w) A (letTemporaryGo value o r >>= fun _ => pure r) Q E s₃) E s := by
    rw [hs]
    exact wpAny_operateT (wpAny_mono h (fun r s' z => wpAny_bind (wpAny_letTemporaryGo (wpAny_pure z))) fun _ _ z => z)
  first
    | exact wpAny_pure (wpAny_bind fin)
    | exact wpAny_bind (wpAny_pure (wpAny_bind fin))
    | exact wpAny_bind fin

theorem aStrG {w : World} {A : Around} {E : Value → Shared → Prop} {s₀ s : Shared} {L m dm ll x d : Addr} {mx : Int} {l : List (Str × Value)} {ls : List Str} {ps : List Pt} {env : Env} {ks : List (Str × NameKind)} {p0 p1 p2 pos : Pos} {Q : Value → Shared → Prop} (a : Act w s₀ L m dm ll x d mx l ls ps s) (e : En env L ks) (hz : ps.length ≤ 400) (ht : total ps ≤ 100000) (lv : Lv 2 A)
    (h : ∀ s' t, Act w s₀ L m dm ll x d mx l ls ps s' → Go [147] s s' → Q (.str (lineTxt ps) t) s') (hkx : ks.lookup ("str" : Str) = some .globalImplicit := by kernel_rfl)
    (hself : l.lookup ("self" : Str) = some (Value.ref m) := by kernel_rfl) (hks : ks.lookup ("self" : Str) = some .local := by kernel_rfl) :
    wpAny (model Pg w) A (eval (.Call (.Name "str" p0) [.Attribute (.Name "self" p1) "_current_line" p2] [] pos) env) Q E s :=
  rCall (rBui e a.gx.g (v := .type "str") (by kernel_rfl) (rArgs (P := fun _ => True) (fun h q => ⟨.machine, .inr (.inl rfl), .of_pure rfl⟩) (wpAny_items_cons (rAttr (rLcl e a.ns hself (mk_cur a.gx.g a.mkr.m0 (wpAny_items_nil ⟨trivial,
    bStr (s := { s with toks := s.toks + 1 }) a.gx a.mkr.acc hz ht lv fun s₂ t₂ go₂ gx₂ ac₂ => h s₂ t₂ ((a.tk (tk := s.toks + 1)).acc go₂ (by first | exact nilT | exact wXD | exact w140 | exact w147 | simp) gx₂ ac₂) ⟨go₂.heap, go₂.gens, go₂.os⟩⟩)) hks)))) (by kernel_rfl) hkx)

theorem Act.gen {w : World} {s₀ s : Shared} {L m dm ll x d : Addr} {mx : Int} {l : List (Str × Value)} {ls : List Str} {ps : List Pt} {Q : Prop} (a : Act w s₀ L m dm ll x d mx l ls ps s) (h : ∀ l', l' = l → Act w s₀ L m dm ll x d mx l' ls ps s → Q) : Q := h l rfl a
theorem acc_nat {pq : List Pt} {n : Nat} (h : pq.length = n + 1) : (((pq.length : Nat) : Int) - 1) = ((n : Nat) : Int) := by rw [h]; simp
section
variable {w : World} {A : Around} {R : Result → Shared → Prop} {s : Shared} {m dm ll x d : Addr} {mx : Int} {ls : List Str} {ps : List Pt} {gap word : Str} {t1 t2 : Tok}

theorem append_more (gx : Gx w s.heap) (M : Mk s.heap m dm ll x d mx ls ps) (hz : ps.length ≤ 300) (ht : total ps + gap.length + word.length ≤ 100000) (hm : mx < ((total ps + gap.length + word.length : Nat) : Int)) (hps : 1 ≤ ps.length) (hls : ls.length ≤ 300) (hg : gap.cps[0]? = some 32) (lv : Lv 6 A)
    (ret : ∀ s' q, q.f = gap → q.p = word → Go (muts ll x d) s s' → Gx w s'.heap → Mk s'.heap m dm ll x d mx (ls ++ [lineTxt ps]) [q] → R (.ok (.ret .none)) s') : codeAny (model Pg w) A (.call (.ref 91) ⟨[.ref m, .str gap t1, .str word t2], []⟩) R s := by
  have h1 := lv.room
  have h2 := lv.line
  refine enterS (binds := [("self", .ref m), ("fws", .str gap t1), ("string", .str word t2)]) gx.g lv.in_ (by k_is) rfl rfl (by kernel_rfl) (BindsTo.of_eq (by kernel_rfl)) (by kernel_rfl) (by kernel_rfl) rfl rfl rfl rfl rfl fun L h₁ env he e n₁ st₁ hL hL' => ?_
  refine gen fun T₀ E₀ hT₀ => ?_
  have a := act_in (w := w) (tk := s.toks + 3) gx M n₁ st₁ hL hL'
  refine a.gen fun l₀ hl a => ?_
  have kS : l₀.lookup ("self" : Str) = some (Value.ref m) := by rw [hl]; kernel_rfl
  have kF : l₀.lookup ("fws" : Str) = some (Value.str gap t1) := by rw [hl]; kernel_rfl
  have kW : l₀.lookup ("string" : Str) = some (Value.str word t2) := by rw [hl]; kernel_rfl
  clear hl n₁ st₁ he
  have lv5 : Lv 5 (A.deeper env) := lv.deep
  have lv2 : Lv 2 (A.deeper env) := lv5.less (by decide)
  have lv1 : Lv 1 (A.deeper env) := lv5.less (by decide)
  refine wpAny_execs_cons (gen fun Y1 Z1 g1 => wpAny_Expr (methodCall_KW (kws := []) (aM a e (f := 122) (by kernel_rfl) (fun s₂ a₂ _ => rArgs (P := fun h => Gr w h) (keep_fn (by kernel_rfl)) (wpAny_items_cons (rLcl e a₂.ns kF (wpAny_items_cons (rLcl e a₂.ns kW (wpAny_items_nil ⟨a₂.gx.g, ?_⟩)))))) (hself := kS))) e.inter)
  refine push_c a₂.gx a₂.mkr.acc (by (first | with_reducible exact Nat.le_trans (by assumption) (by decide) | omega)) lv1 fun s₃ t₃ go₃ gx₃ ac₃ _ => ?_
  have a₃ := a₂.acc go₃ (by first | exact nilT | exact wXD | exact w140 | exact w147 | simp) gx₃ ac₃
  have tt : total (ps ++ [⟨t₃, gap, word, t1, t2⟩]) = total ps + gap.length + word.length := by rw [total_snoc]; unfold Pt.len; simp only; omega
  obtain ⟨q, hq⟩ : ∃ q : Pt, q = ⟨t₃, gap, word, t1, t2⟩ := ⟨_, rfl⟩
  rw [← hq] at a₃ tt
  have plen : (ps ++ [q]).length = ps.length + 1 := by rw [List.length_append]; rfl
  have pref : (refs (ps ++ [q]))[ps.length]? = some (.ref t₃) := by rw [hq]; simp [refs]
  have plr : (refs (ps ++ [q])).length = ps.length + 1 := by simp [refs]
  have pmem : q ∈ ps ++ [q] := List.mem_append_right _ (.head _)
  have tk1 : (ps ++ [q] : List Pt).take ps.length = ps := List.take_left
  have tk2 : (ps ++ [q] : List Pt).drop ps.length = [q] := List.drop_left
  clear ac₃ gx₃ go₃ a₂ a
  generalize ps ++ [q] = pq at a₃ tt plen pref plr pmem tk1 tk2
  refine g1 _ _ (wpAny_execs_cons (wpAny_If (gen fun Y2 Z2 g2 => wpAny_isTrue_Compare1 (aLen a₃ e (by rw [plen]; exact Nat.le_trans (Nat.succ_le_succ hz) (by decide)) (by rw [tt]; exact ht) lv2 (fun s₄ t₄ a₄ => rAttr (rLcl e a₄.ns kS (mk_max a₄.gx.g a₄.mkr.m0 fun t₅ => PyProof.Rows.gt_int (wpAny_truthy_bool ?_)))) (hself := kS)))))
  rw [tt, decide_eq_true hm]
  refine g2 _ _ (if_tt ?_)
  have a₅ := a₄.tk (tk := s₄.toks + 1)
  -- for ch in ' '
  refine wpAny_execs_cons (wpAny_For (gen fun Y3 Z3 g3 => rAttr (rLcl e a₅.ns kS (mk_split a₅.gx.g a₅.mkr.m0 fun t₆ => g3 _ _ (wpAny_pyIter_ascii (by decide +kernel) ?_)))))
  have a₆ := (a₅.tk (tk := s₄.toks + 1 + 1)).ext (tk := s₄.toks + 1 + 1) (Step.push s₄.heap { cls := .type "str_ascii_iterator", data := .fields #[.str " " t₆, .int 0 0] })
  have nI := a₅.nw
  have eI : (s₄.heap.push { cls := .type "str_ascii_iterator", data := .fields #[.str " " t₆, .int 0 0] }).get? s₄.heap.objs.size = some { cls := .type "str_ascii_iterator", data := .fields #[.str " " t₆, .int 0 0] } := Heap.get?_push_size _ rfl
  generalize s₄.heap.push { cls := .type "str_ascii_iterator", data := .fields #[.str " " t₆, .int 0 0] } = h₆ at a₆ eI ⊢
  refine forOnce fun E₁ Tn₁ Tm₁ gF => ?_
  refine wpAny_pyNext_ascii_item (i := 0) (c := 32) ⟨_, eI, rfl, rfl⟩ rfl fun h₇ hI₇ sb₇ => gF.some _ _ ?_
  have a₇ := a₆.oth (tk := s₄.toks + 1 + 1 + 1) nI (noTup_of eI rfl) (stepOf sb₇)
  generalize s₄.toks + 1 + 1 = tC at a₇ ⊢
  refine wpAny_assign_Name (aSto a₇ e fun s₈ a₈ _ => ?_)
  refine a₈.gen fun l₁ hl a₈ => ?_
  have kS : l₁.lookup ("self" : Str) = some (Value.ref m) := hl ▸ lk_skip kS
  have kF : l₁.lookup ("fws" : Str) = some (Value.str gap t1) := hl ▸ lk_skip kF
  have kC : l₁.lookup ("ch" : Str) = some (Value.str ⟨#[32]⟩ tC) := hl ▸ lk_here
  clear hl
  -- for i in range(..)
  refine wpAny_execs_cons (wpAny_For (gen fun Y4 Z4 g4 => rCall (rBui e a₈.gx.g (v := .type "range") (by kernel_rfl) (rArgs (P := fun _ => True) (fun h q => ⟨.machine, .inr (.inl rfl), .of_pure rfl⟩) (wpAny_items_cons (wpAny_BinOp (methodCall_KW (kws := []) (aM a₈ e (f := 175) (by kernel_rfl) (fun s₉ a₉ _ => callWith_K0 (K := Kf w) a₉.gx.g.X (by kernel_rfl) ?_) (hself := kS)))))))))
  refine count_c a₉.gx a₉.mkr.acc lv1 fun sA tA goA gxA acA => ?_
  have aA := a₉.acc goA (by first | exact nilT | exact wXD | exact w140 | exact w147 | simp) gxA acA
  refine wpAny_Constant_int (sub_int (wpAny_items_cons (wpAny_Constant_int (wpAny_items_cons (wpAny_UnaryOp (wpAny_Constant_int (neg_int (wpAny_items_nil ⟨trivial, ?_⟩))))))))
  rw [acc_nat plen]
  refine call_range_3 (by decide) (g4 _ _ ?_) (.inl (PyProof.noPylong_small (by omega)))
  have rB := IsRange.new (h := sA.heap) (a := (ps.length : Int)) (b := 0) (c := -1) (t := sA.toks + 1) (u := sA.toks + 1 + 1) (v := sA.toks + 1 + 1 + 1 + 1)
  have aB := aA.ext (tk := sA.toks + 1 + 1 + 1 + 1 + 1) (Step.push sA.heap { cls := .type "range", data := .fields #[.int ps.length (sA.toks + 1), .int 0 (sA.toks + 1 + 1), .int (-1) (sA.toks + 1 + 1 + 1 + 1)] })
  generalize sA.heap.push { cls := .type "range", data := .fields #[.int ps.length (sA.toks + 1), .int 0 (sA.toks + 1 + 1), .int (-1) (sA.toks + 1 + 1 + 1 + 1)] } = hB at aB rB ⊢
  refine wpAny_pyIter_range rB (small_down _ (by (first | with_reducible exact Nat.le_trans (by assumption) (by decide) | omega))) ?_
  rw [rangeSize_down]
  have nJ := aB.nw
  have aC := aB.ext (tk := sA.toks + 1 + 1 + 1 + 1 + 1) (Step.push hB { cls := .type "range_iterator", data := .fields #[rawInt ps.length, rawInt ps.length, rawInt (-1)] })
  have eJ := Heap.get?_push_size hB (o := { cls := .type "range_iterator", data := .fields #[rawInt ps.length, rawInt ps.length, rawInt (-1)] }) rfl
  generalize hB.push { cls := .type "range_iterator", data := .fields #[rawInt ps.length, rawInt ps.length, rawInt (-1)] } = hC at aC eJ ⊢
  refine forOnce fun E₂ Tn₂ Tm₂ gG => ?_
  refine wpAny_pyNext_range_item (x := ps.length) (left := ps.length) (step := -1) eJ (by omega) fun hD hJD sbD => gG.some _ _ ?_
  have aD := aC.oth (tk := sA.toks + 1 + 1 + 1 + 1 + 1 + 1) nJ (noTup_of eJ rfl) (stepOf sbD)
  generalize sA.toks + 1 + 1 + 1 + 1 + 1 = tI at aD ⊢
  refine wpAny_assign_Name (aSto aD e fun sE aE _ => ?_)
  refine aE.gen fun l₂ hl aE => ?_
  have kS : l₂.lookup ("self" : Str) = some (Value.ref m) := hl ▸ lk_skip kS
  have kC : l₂.lookup ("ch" : Str) = some (Value.str ⟨#[32]⟩ tC) := hl ▸ lk_skip kC
  have kI : l₂.lookup ("i" : Str) = some (Value.int ps.length tI) := hl ▸ lk_here
  clear hl
  refine wpAny_execs_cons (wpAny_If (gen fun Y5 Z5 g5 => wpAny_isTrue_value (methodCall_KW (kws := []) (rLcl e aE.ns kC (GM.isspace (callWith_of (P := fun _ => True) rfl (fun h q => keep_bui h q) (evalArgs_nil3 ⟨trivial, SC.isspace (wpAny_truthy_bool ?_)⟩)))))))
  rw [show Txt.isspace ⟨#[32]⟩ = true by decide +kernel]
  refine g5 _ _ (if_tt ?_)
  -- fws = line[i][0]
  refine wpAny_execs_cons (gen fun Y6 Z6 g6 => wpAny_Assign_Name (Subscript_ (Subscript_ (aCur aE e (fun sF aF _ => rLcl e aF.ns kI ?_) (hself := kS)))))
  obtain ⟨nF, exF⟩ := aF.mkr.acc.obj
  refine acc_tail aF.gx.g exF (acc_item aF.gx.g exF (v := .ref t₃) (by (first | with_reducible exact Int.natCast_nonneg _ | omega)) (by omega) pref ?_) ⟨_, rfl⟩
  have eT : sF.heap.get? t₃ = some (tupObj gap word t1 t2) := by have := aF.mkr.acc.pts q pmem; rw [hq] at this; exact this
  refine wpAny_Constant_int (any_tail ⟨_, eT, rfl⟩ slot_tuple_getitem.lookup (PyProof.Rows.getItem_tuple (items := [Value.str gap t1, Value.str word t2].toArray) (j := 0) (x := .str gap t1) ⟨_, eT, rfl, 0, rfl⟩ (by decide) (by decide) rfl rfl ?_) ⟨_, rfl⟩)
  refine aSto (aF.tk (tk := sF.toks + 1)) e fun sG aG _ => g6 _ _ ?_
  refine aG.gen fun l₃ hl aG => ?_
  have kS : l₃.lookup ("self" : Str) = some (Value.ref m) := hl ▸ lk_skip kS
  have kC : l₃.lookup ("ch" : Str) = some (Value.str ⟨#[32]⟩ tC) := hl ▸ lk_skip kC
  have kI : l₃.lookup ("i" : Str) = some (Value.int ps.length tI) := hl ▸ lk_skip kI
  have kF : l₃.lookup ("fws" : Str) = some (Value.str gap t1) := hl ▸ lk_here
  clear hl
  have hgl : ((gap.length : Int) != 0) = true := by
    have h0 : 0 < gap.cps.size := (Array.getElem?_eq_some_iff.mp hg).1
    have h1 : gap.length = gap.cps.size := rfl
    rw [h1]
    simp only [bne_iff_ne, ne_eq]
    omega
  refine wpAny_execs_cons (wpAny_If (gen fun Y7 Z7 g7 => wpAny_isTrue_BoolOp (wpAny_allTrue_And_cons (wpAny_isTrue_value (rLcl e aG.ns kF (PySem.P.truthy_str (by omega) ?_))))))
  rw [hgl]
  refine if_tt ?_
  have aH := aG.tk (tk := sG.toks + 1 + 1)
  refine wpAny_allTrue_And_cons (wpAny_isTrue_Compare1 (Subscript_ (rLcl e aH.ns kF (wpAny_Constant_int (any_tail (typeIs_str _ _ _) slot_str_getitem.lookup (PyProof.Rows.getItem_str (c := 32) (by decide) ?_ ?_) ⟨_, rfl⟩)))))
  · exact idx0 hg
  refine rLcl e (aH.tk (tk := sG.toks + 1 + 1 + 1 + 1)).ns kC (PyProof.Rows.eq_str (wpAny_truthy_bool ?_))
  rw [show ((⟨#[32]⟩ : Str) == ⟨#[32]⟩) = true by decide]
  refine if_tt (wpAny_allTrue_And_nil (g7 _ _ (if_tt (wpAny_execs_cons (wpAny_Break (gG.brk _ ?_))))))
  have aI := aH.tk (tk := sG.toks + 1 + 1 + 1 + 1)
  -- break of the inner loop, break of the outer loop
  refine wpAny_execs_cons (wpAny_Break (gF.brk _ ?_))
  -- remainder = line.pop_from(i)
  refine wpAny_execs_cons (gen fun Y8 Z8 g8 => wpAny_Assign_Name (methodCall_KW (kws := []) (aM aI e (f := 130) (by kernel_rfl) (fun sJ aJ _ => rArgs (P := fun h => Gr w h) (keep_fn (by kernel_rfl)) (wpAny_items_cons (rLcl e aJ.ns kI (wpAny_items_nil ⟨aJ.gx.g, ?_⟩)))) (hself := kS))))
  refine pop_from_c aJ.gx aJ.mkr.acc (by rw [plen]; exact Nat.le_trans (Nat.succ_le_succ hz) (by decide)) (by rw [plen]; exact Nat.le_succ _) lv1 fun sK lK goK gxK acK elK dlK ptK => ?_
  rw [tk1] at acK
  rw [tk2] at elK ptK
  have aK := aJ.acc goK (by first | exact nilT | exact wXD | exact w140 | exact w147 | simp) gxK acK
  refine aSto aK e fun sL aL' stL => g8 _ _ ?_
  refine aL'.gen fun l₄ hl aL' => ?_
  have kS : l₄.lookup ("self" : Str) = some (Value.ref m) := hl ▸ lk_skip kS
  have kR : l₄.lookup ("remainder" : Str) = some (Value.ref lK) := hl ▸ lk_here
  clear hl
  have neL : lK ≠ L := by
    obtain ⟨o, es, ep, q, _⟩ := aJ.ns
    exact Ne.symm (alive_ne q dlK)
  have elL := stL.keep _ _ (by first | exact one1 (neL) | simpa using neL) elK
  have ptL : PtsAt sL.heap [q] := pts_step ptK stL (noTup_ns aK.ns)
  -- lines.append(str(line))
  refine wpAny_execs_cons (gen fun Y9 Z9 g9 => wpAny_Expr (methodCall_KW (kws := []) (aL aL' e (fun sM aM' eM => rArgs (P := fun _ => True) (fun h q => keep_bui h q) (wpAny_items_cons (aStrG aM' e (by (first | with_reducible exact Nat.le_trans (by assumption) (by decide) | omega)) (by omega) lv2 (fun sN tN aN goN => wpAny_items_nil ⟨trivial,
    ls_append aN.mkr.lines (by (first | with_reducible exact Nat.le_trans (by assumption) (by decide) | omega)) fun hO nO stO => g9 _ _ ?_⟩) (hself := kS)))) (hself := kS))) e.inter)
  have aO := aN.lns (tk := sN.toks) nO stO
  have n147 : (147 : Nat) ≠ lK := by
    obtain ⟨tb, et⟩ := aJ.gx.t2.at
    exact alive_ne et dlK
  have elN : sN.heap.get? lK = some (lstObj (refs [q]) 0) := goN.heap.keep _ _ (by first | exact one1 (Ne.symm n147) | simpa using Ne.symm n147) (eM ▸ elL)
  have ptN : PtsAt sN.heap [q] := pts_step (eM ▸ ptL) goN.heap (noTup_tab aM'.gx.t2)
  have nll : lK ≠ ll := by
    obtain ⟨o, q⟩ := aJ.mkr.alive ll (by first | exact nilT | exact nil1 | k_mem | simp)
    exact Ne.symm (alive_ne q dlK)
  have elO : hO.get? lK = some (lstObj (refs [q]) 0) := stO.keep _ _ (by first | exact one1 (nll) | simpa using nll) elN
  have ptO : PtsAt hO [q] := pts_step ptN stO (noTup_ls aN.mkr.lines)
  -- line.reset(remainder)
  refine wpAny_execs_cons (gen fun Ya Za ga => wpAny_Expr (methodCall_KW (kws := []) (aM aO e (f := 160) (by kernel_rfl) (fun sP aP eP => rArgs (P := fun h => Gr w h) (keep_fn (by kernel_rfl)) (wpAny_items_cons (rLcl e aP.ns kR (wpAny_items_nil ⟨aP.gx.g, ?_⟩)))) (hself := kS))) e.inter)
  have eP' : sP.heap = hO := eP
  refine reset1_c aP.gx aP.mkr.acc (qs := [q]) (eP' ▸ elO) (eP' ▸ ptO) (by (first | with_reducible exact Nat.le_trans (by assumption) (by decide) | omega)) (by first | exact nilT | exact nil1 | k_mem | simp) lv1 fun sQ goQ gxQ acQ => ?_
  have aQ := aP.acc goQ (by first | exact nilT | exact wXD | exact w140 | exact w147 | simp) gxQ acQ
  exact ga _ _ (wpAny_execs_nil (wpAny_execs_nil (hT₀ _ _ (ret _ q (hq ▸ rfl) (hq ▸ rfl) aQ.go aQ.gx aQ.mkr))))
end
end Mine.Internal
end

section
open PySem PySem.W PyProof.Rows PySem.Calls
set_option maxRecDepth 100000
set_option maxHeartbeats 4000000
set_option linter.unusedVariables false
namespace Mine.Internal

structure OI (w : World) (s : Shared) (L m dm ll x d : Addr) (mx : Int) (ls : List Str) (ps : List Pt) (I : Addr) (t : Tok) (s' : Shared) : Prop where
  it : s'.heap.IsStrIter I "str_ascii_iterator" " " t 1
  a : ∃ l', l'.lookup ("self" : Str) = some (Value.ref m) ∧ Act w s L m dm ll x d mx l' ls ps s'

section
variable {w : World} {A : Around} {R : Result → Shared → Prop} {s : Shared} {m dm ll x d : Addr} {mx : Int} {ls : List Str} {gap word : Str} {t1 t2 : Tok}

theorem append_one (gx : Gx w s.heap) (M : Mk s.heap m dm ll x d mx ls []) (ht : gap.length + word.length ≤ 100000) (hm : mx < ((gap.length + word.length : Nat) : Int)) (lv : Lv 6 A)
    (ret : ∀ s' q, q.f = gap → q.p = word → Go (muts ll x d) s s' → Gx w s'.heap → Mk s'.heap m dm ll x d mx ls [q] → R (.ok (.ret .none)) s') : codeAny (model Pg w) A (.call (.ref 91) ⟨[.ref m, .str gap t1, .str word t2], []⟩) R s := by
  have h1 := lv.room
  have h2 := lv.line
  refine enterS (binds := [("self", .ref m), ("fws", .str gap t1), ("string", .str word t2)]) gx.g lv.in_ (by k_is) rfl rfl (by kernel_rfl) (BindsTo.of_eq (by kernel_rfl)) (by kernel_rfl) (by kernel_rfl) rfl rfl rfl rfl rfl fun L h₁ env he e n₁ st₁ hL hL' => ?_
  refine gen fun T₀ E₀ hT₀ => ?_
  have a := act_in (w := w) (tk := s.toks + 3) gx M n₁ st₁ hL hL'
  refine a.gen fun l₀ hl a => ?_
  have kS : l₀.lookup ("self" : Str) = some (Value.ref m) := by rw [hl]; kernel_rfl
  have kF : l₀.lookup ("fws" : Str) = some (Value.str gap t1) := by rw [hl]; kernel_rfl
  have kW : l₀.lookup ("string" : Str) = some (Value.str word t2) := by rw [hl]; kernel_rfl
  clear hl n₁ st₁ he
  have lv5 : Lv 5 (A.deeper env) := lv.deep
  have lv2 : Lv 2 (A.deeper env) := lv5.less (by decide)
  have lv1 : Lv 1 (A.deeper env) := lv5.less (by decide)
  refine wpAny_execs_cons (gen fun Y1 Z1 g1 => wpAny_Expr (methodCall_KW (kws := []) (aM a e (f := 122) (by kernel_rfl) (fun s₂ a₂ _ => rArgs (P := fun h => Gr w h) (keep_fn (by kernel_rfl)) (wpAny_items_cons (rLcl e a₂.ns kF (wpAny_items_cons (rLcl e a₂.ns kW (wpAny_items_nil ⟨a₂.gx.g, ?_⟩)))))) (hself := kS))) e.inter)
  refine push_c a₂.gx a₂.mkr.acc (by first | exact nilT | exact nil1 | k_mem | simp) lv1 fun s₃ t₃ go₃ gx₃ ac₃ _ => ?_
  have a₃ := a₂.acc go₃ (by first | exact nilT | exact wXD | exact w140 | exact w147 | simp) gx₃ ac₃
  have tt : total ([] ++ [⟨t₃, gap, word, t1, t2⟩]) = gap.length + word.length := by rw [total_snoc]; unfold Pt.len total; simp
  obtain ⟨q, hq⟩ : ∃ q : Pt, q = ⟨t₃, gap, word, t1, t2⟩ := ⟨_, rfl⟩
  rw [← hq] at a₃ tt
  clear ac₃ gx₃ go₃ a₂ a
  refine g1 _ _ (wpAny_execs_cons (wpAny_If (gen fun Y2 Z2 g2 => wpAny_isTrue_Compare1 (aLen a₃ e (Nat.le_of_ble_eq_true rfl) (by rw [tt]; exact ht) lv2 (fun s₄ t₄ a₄ => rAttr (rLcl e a₄.ns kS (mk_max a₄.gx.g a₄.mkr.m0 fun t₅ => PyProof.Rows.gt_int (wpAny_truthy_bool ?_)))) (hself := kS)))))
  rw [tt, decide_eq_true hm]
  refine g2 _ _ (if_tt ?_)
  have a₅ := a₄.tk (tk := s₄.toks + 1)
  refine wpAny_execs_cons (wpAny_For (gen fun Y3 Z3 g3 => rAttr (rLcl e a₅.ns kS (mk_split a₅.gx.g a₅.mkr.m0 fun t₆ => g3 _ _ (wpAny_pyIter_ascii (by decide +kernel) ?_)))))
  have a₆ := (a₅.tk (tk := s₄.toks + 1 + 1)).ext (tk := s₄.toks + 1 + 1) (Step.push s₄.heap { cls := .type "str_ascii_iterator", data := .fields #[.str " " t₆, .int 0 0] })
  have nI := a₅.nw
  have eI : (s₄.heap.push { cls := .type "str_ascii_iterator", data := .fields #[.str " " t₆, .int 0 0] }).get? s₄.heap.objs.size = some { cls := .type "str_ascii_iterator", data := .fields #[.str " " t₆, .int 0 0] } := Heap.get?_push_size _ rfl
  generalize s₄.heap.push { cls := .type "str_ascii_iterator", data := .fields #[.str " " t₆, .int 0 0] } = h₆ at a₆ eI ⊢
  refine forT (fun n s' => (n = 1 ∧ s' = _) ∨ (n = 0 ∧ OI w s L m dm ll x d mx ls ([] ++ [q]) s₄.heap.objs.size t₆ s')) (fun n s' E₁ Tn₁ Tm₁ hs' gF => ?_) 1 (.inl ⟨rfl, rfl⟩)
  rcases hs' with hs' | hs'
  · rw [hs'.2]
    have hn := hs'.1
    clear hs'
    refine wpAny_pyNext_ascii_item (i := 0) (c := 32) ⟨_, eI, rfl, rfl⟩ rfl fun h₇ hI₇ sb₇ => gF.some _ _ ?_
    have a₇ := a₆.oth (tk := s₄.toks + 1 + 1 + 1) nI (noTup_of eI rfl) (stepOf sb₇)
    generalize s₄.toks + 1 + 1 = tC at a₇ ⊢
    refine wpAny_assign_Name (aSto a₇ e fun s₈ a₈ st₈ => ?_)
    refine a₈.gen fun l₁ hl a₈ => ?_
    have kS : l₁.lookup ("self" : Str) = some (Value.ref m) := hl ▸ lk_skip kS
    clear hl
    refine wpAny_execs_cons (wpAny_For (gen fun Y4 Z4 g4 => rCall (rBui e a₈.gx.g (v := .type "range") (by kernel_rfl) (rArgs (P := fun _ => True) (fun h q => ⟨.machine, .inr (.inl rfl), .of_pure rfl⟩) (wpAny_items_cons (wpAny_BinOp (methodCall_KW (kws := []) (aM a₈ e (f := 175) (by kernel_rfl) (fun s₉ a₉ e₉ => callWith_K0 (K := Kf w) a₉.gx.g.X (by kernel_rfl) ?_) (hself := kS)))))))))
    refine count_c a₉.gx a₉.mkr.acc lv1 fun sA tA goA gxA acA => ?_
    have aA := a₉.acc goA (by first | exact nilT | exact wXD | exact w140 | exact w147 | simp) gxA acA
    refine wpAny_Constant_int (sub_int (wpAny_items_cons (wpAny_Constant_int (wpAny_items_cons (wpAny_UnaryOp (wpAny_Constant_int (neg_int (wpAny_items_nil ⟨trivial, ?_⟩))))))))
    rw [acc_nat (n := 0) (show ([] ++ [q] : List Pt).length = 0 + 1 from rfl)]
    refine call_range_3 (by decide) (g4 _ _ ?_) (.inl (PyProof.noPylong_small (by omega)))
    have rB := IsRange.new (h := sA.heap) (a := ((0 : Nat) : Int)) (b := 0) (c := -1) (t := sA.toks + 1) (u := sA.toks + 1 + 1) (v := sA.toks + 1 + 1 + 1 + 1)
    have sB := Step.push sA.heap { cls := .type "range", data := .fields #[.int (0 : Nat) (sA.toks + 1), .int 0 (sA.toks + 1 + 1), .int (-1) (sA.toks + 1 + 1 + 1 + 1)] }
    have aB := aA.ext (tk := sA.toks + 1 + 1 + 1 + 1 + 1) sB
    generalize sA.heap.push { cls := .type "range", data := .fields #[.int (0 : Nat) (sA.toks + 1), .int 0 (sA.toks + 1 + 1), .int (-1) (sA.toks + 1 + 1 + 1 + 1)] } = hB at aB rB sB ⊢
    refine wpAny_pyIter_range rB (small_down _ (by omega)) ?_
    rw [rangeSize_down]
    have nJ := aB.nw
    have sC := Step.push hB { cls := .type "range_iterator", data := .fields #[rawInt (0 : Nat), rawInt (0 : Nat), rawInt (-1)] }
    have aC := aB.ext (tk := sA.toks + 1 + 1 + 1 + 1 + 1) sC
    have eJ := Heap.get?_push_size hB (o := { cls := .type "range_iterator", data := .fields #[rawInt (0 : Nat), rawInt (0 : Nat), rawInt (-1)] }) rfl
    generalize hB.push { cls := .type "range_iterator", data := .fields #[rawInt (0 : Nat), rawInt (0 : Nat), rawInt (-1)] } = hC at aC eJ sC ⊢
    refine forOnce fun E₂ Tn₂ Tm₂ gG => ?_
    refine wpAny_pyNext_range_end (x := (0 : Nat)) (left := (0 : Nat)) (step := -1) lv2.han eJ (by omega) fun hD exD => gG.none _ (wpAny_execs_cons (wpAny_Continue (gF.cont 0 _ (hn ▸ Nat.zero_lt_one) (.inr ⟨rfl, ?_⟩))))
    have aD := aC.oth (tk := sA.toks + 1 + 1 + 1 + 1 + 1) nJ (noTup_of eJ rfl) (stepExt exD)
    refine ⟨?_, _, ?_, aD⟩
    · obtain ⟨oI, eI7, r7⟩ := hI₇
      have q8 : s₈.heap.get? s₄.heap.objs.size = some oI := st₈.keep _ _ (by first | exact one1 (nI.ne) | simpa using nI.ne) eI7
      have q9 : s₉.heap.get? s₄.heap.objs.size = some oI := e₉ ▸ q8
      have qA := goA.heap.keep _ _ (by first | exact nilT | exact nil1 | k_mem | simp) q9
      have qB := sB.keep _ _ nil1 qA
      have qC := sC.keep _ _ nil1 qB
      exact ⟨oI, exD _ _ (Nat.ne_of_lt (Heap.lt_size qB)) qC, r7⟩
    · exact kS
  · obtain ⟨hI, l', hl', aZ⟩ := hs'.2
    refine wpAny_pyNext_ascii_end lv2.han hI rfl fun hA exA => gF.none _ ?_
    obtain ⟨oI, eIZ, hcI, hdI⟩ := id hI
    have aA := aZ.oth (tk := s'.toks) nI (noTup_of eIZ (by rw [hcI]; rfl)) (stepExt exA)
    -- fws, part = line.pop()
    refine wpAny_execs_cons (gen fun Y5 Z5 g5 => Assign_Tuple (methodCall_KW (kws := []) (aM aA e (f := 138) (by kernel_rfl) (fun sB aB _ => callWith_K0 (K := Kf w) aB.gx.g.X (by kernel_rfl) ?_) (hself := hl'))))
    refine pop_c (ps := []) (q := q) aB.gx aB.mkr.acc (by first | exact nilT | exact nil1 | k_mem | simp) lv1 fun sC goC gxC acC eqC => ?_
    have eqC : sC.heap.get? q.a = some (tupObj gap word t1 t2) := eqC.trans (congrArg some (by rw [hq]))
    have aC := aB.acc goC (by first | exact nilT | exact wXD | exact w140 | exact w147 | simp) gxC acC
    refine assign_Tuple_tuple (items := [Value.str gap t1, Value.str word t2].toArray) lv2.han ⟨_, eqC, rfl, 0, rfl⟩ rfl rfl fun hD exD => ?_
    have aD := aC.ext (tk := sC.toks) (h' := hD) ⟨fun b o _ q => exD b o (Nat.ne_of_lt (Heap.lt_size q)) q⟩
    refine assignInOrder_cons (wpAny_assign_Name (aSto aD e fun sE aE _ => ?_))
    refine assignInOrder_cons (wpAny_assign_Name (aSto aE e fun sF aF _ => assignInOrder_nil (g5 _ _ ?_)))
    refine aF.gen fun lF hlf aF => ?_
    have hlF : lF.lookup ("self" : Str) = some (Value.ref m) := hlf ▸ lk_skip (lk_skip hl')
    have kF : lF.lookup ("fws" : Str) = some (Value.str gap t1) := hlf ▸ lk_skip lk_here
    have kP : lF.lookup ("part" : Str) = some (Value.str word t2) := hlf ▸ lk_here
    clear hlf
    -- if line._initial_size > 0
    refine wpAny_execs_cons (wpAny_If (gen fun Y6 Z6 g6 => wpAny_isTrue_Compare1 (rAttr (aCur aF e (fun sG aG _ => ?_) (hself := hlF)))))
    obtain ⟨nG, exG⟩ := aG.mkr.acc.obj
    obtain ⟨hsG, tkG, tiG, kG, edG⟩ := aG.mkr.acc.dict
    refine acc_getAttr aG.gx.g exG edG (v := .int 0 tiG) (attr := none) (by kernel_rfl) (by kernel_rfl) (by kernel_rfl) rfl (wpAny_Constant_int (PyProof.Rows.gt_int (wpAny_truthy_bool ?_)))
    refine g6 _ _ (if_ff (wpAny_execs_nil ?_))
    have aH := aG.tk (tk := sG.toks + 1 + 1)
    -- line.push(fws, part)
    refine wpAny_execs_cons (gen fun Y7 Z7 g7 => wpAny_Expr (methodCall_KW (kws := []) (aM aH e (f := 122) (by kernel_rfl) (fun sI aI _ => rArgs (P := fun h => Gr w h) (keep_fn (by kernel_rfl)) (wpAny_items_cons (rLcl e aI.ns kF (wpAny_items_cons (rLcl e aI.ns kP (wpAny_items_nil ⟨aI.gx.g, ?_⟩)))))) (hself := hlF))) e.inter)
    refine push_c aI.gx aI.mkr.acc (by first | exact nilT | exact nil1 | k_mem | simp) lv1 fun sJ tJ goJ gxJ acJ _ => ?_
    have aJ := aI.acc goJ (by first | exact nilT | exact wXD | exact w140 | exact w147 | simp) gxJ acJ
    refine g7 _ _ (wpAny_execs_cons (wpAny_Return_none ?_))
    exact hT₀ _ _ (ret _ _ rfl rfl aJ.go aJ.gx aJ.mkr)
end
end Mine.Internal
end

section
open PySem PySem.W PyProof.Rows PySem.Calls
set_option maxRecDepth 100000
set_option maxHeartbeats 4000000
set_option linter.unusedVariables false
namespace Mine.Internal

section
variable {w : World} {A : Around} {E : Value → Shared → Prop} {h : Heap} {g : Array GenState} {dr : Drawn} {t : Nat} {os : OsState} {R : Result → Shared → Prop}

noncomputable def slot4 (K : Frag) (C : Addr) : Option Value := match K.lookup C with
  | some ⟨_, _, .cls _, sl⟩ => (sl.toList[4]?).join
  | _ => none
theorem s4 (w : World) : slot4 (Kf w) 178 = some (.builtin "list.__new__") := by kernel_rfl

structure Cls178 (w : World) (h : Heap) : Prop where
  obj : ∃ oc od cd sl, h.get? 178 = some ⟨oc, od, .cls cd, sl⟩ ∧ cd.abstract = false ∧ cd.hasDel = false ∧ cd.mro = [.ref 178, .type "list", .type "object"]
  made : Looks (model Pg w) h (Bind.madeBy (.ref 178)) (some "list.__new__")
  base : Looks (model Pg w) h (Bind.staticBase (.ref 178)) (.ref 178)
  self : Looks (model Pg w) h (isSubtype (.ref 178) (.ref 178)) true
  lst : Looks (model Pg w) h (isSubtype (.ref 178) (.type "list")) true
  call : Looks (model Pg w) h (specialOf (.ref 178) "__call__") (some (.builtin "type.__call__"))
  typ : Looks (model Pg w) h (isInstance (.ref 178) (.type "type")) true

theorem cls178 (gr : Gr w h) : Cls178 w h := by
  have e : ((Kf w).lookup 178).map (fun o => match o.data with | .cls cd => (!cd.abstract && !cd.hasDel && cd.mro == [.ref 178, .type "list", .type "object"] && (o.slots.toList[4]?).join == some (.builtin "list.__new__")) | _ => false) = some true := by kernel_rfl
  obtain ⟨o, ho, hq⟩ := Option.map_eq_some_iff.mp e
  obtain ⟨oc, od, data, sl⟩ := o
  cases data with
  | cls cd =>
    simp only [Bool.and_eq_true, Bool.not_eq_true', beq_iff_eq] at hq
    obtain ⟨⟨⟨e1, e2⟩, e3⟩, e4⟩ := hq
    have hc : clsIn (Kf w) 178 = some cd := by unfold clsIn; rw [ho]
    have hm : Looks (model Pg w) h (mroOf (.ref 178)) cd.mro := (looks_clsIn gr.X hc).andThen .now
    have made : Looks (model Pg w) h (Bind.madeBy (.ref 178)) (some "list.__new__") := by
      intro A Q E s k q
      unfold Bind.madeBy
      refine wpAny_bind (hm A _ E s k ?_)
      rw [e3, List.forIn_cons]
      refine wpAny_bind (wpAny_bind (wpAny_bind (wpAny_bind (wpAny_loadPart (k _ _ (gr.X _ _ ho)) (wpAny_pure ?_)))))
      dsimp only
      rw [← Array.getElem?_toList, e4]
      exact wpAny_pure (wpAny_pure (wpAny_pure q))
    refine ⟨⟨oc, od, cd, sl, gr.X _ _ ho, e1, e2, e3⟩, made, ?_, looks_mroIn gr.X (by kernel_rfl), looks_mroIn gr.X (by kernel_rfl), looks_specialIn gr.X (by kernel_rfl), looks_instIn gr.X (by kernel_rfl)⟩
    intro A Q E s k q
    unfold Bind.staticBase
    refine wpAny_bind (hm A _ E s k ?_)
    rw [e3, List.forIn_cons]
    exact wpAny_bind (wpAny_bind (wpAny_bind (made A _ E s k (wpAny_pure (wpAny_pure (wpAny_pure q))))))
  | _ => exact (Bool.false_ne_true hq).elim

theorem new_list {rest : List Value} (Y : Cls178 w h) (hq : R (.ok (.ret (.ref (h.objs.size + 1)))) ⟨(h.push emptyDict).push (accObj h.objs.size [] 0), g, dr, t, os⟩) :
    codeAny (model Pg w) A (.call (.builtin "list.__new__") ⟨.ref 178 :: rest, []⟩) R ⟨h, g, dr, t, os⟩ := by
  obtain ⟨⟨oc, od, cd, sl, hC, e1, e2, e4⟩, made, base, self, top, call, typ⟩ := Y
  refine codeAny_of_tree ?_
  show wpAny _ A.in1 (do checkBuiltinCall "list.__new__" ⟨.ref 178 :: rest, []⟩; again (.builtin "list.__new__" ⟨.ref 178 :: rest, []⟩)) _ _ _
  have here : Looks (model Pg w) h (Bind.madeHere "list.__new__" (.ref 178)) () := base.andThen (made.andThen (Looks.of_pure (by simp only [Option.map_some, bne_self_eq_false, Bool.false_eq_true, if_false])))
  have hk : builtinKind "list.__new__" = some .builtinFn := by decide +kernel
  have hs : splitId "list.__new__" = some ("list", "__new__") := by decide +kernel
  have sig : Manifest.signature? "list.__new__" = some ⟨.any, "list", "list", .cls, [⟨"args", .varPos, false⟩, ⟨"kwargs", .varKw, false⟩]⟩ := by
    rw [signature?_of (id := "list.__new__") (n := ['_', '_', 'w', 'e', 'n', '_', '_']) (o := ['t', 's', 'i', 'l']) (by kernel_rfl) PySem.F.owner_list]
    kernel_rfl
  have args : Bind.checkArgs "list.__new__" ⟨.any, "list", "list", .cls, [⟨"args", .varPos, false⟩, ⟨"kwargs", .varKw, false⟩]⟩ ⟨.ref 178 :: rest, []⟩ = pure () := by kernel_rfl
  refine wpAny_bind ?_
  unfold checkBuiltinCall
  rw [hk]
  dsimp only
  rw [hs]
  dsimp only
  rw [sig]
  dsimp only
  rw [args]
  have tail : ∀ (A' : Around), wpAny (model Pg w) A' (again (.builtin "list.__new__" ⟨.ref 178 :: rest, []⟩)) (fun fin s' => match fin with
      | .done f => R (.ok f) s'
      | .again c' => c'.quiet = true ∧ codeAny (model Pg w) A c' R s') (fun e s' => R (.error e) s') ⟨h, g, dr, t, os⟩ := by
    intro A'
    refine wpAny_pure ⟨plainId_quiet F.plain_list_new _, codeAny_builtin_stack F.entry_list_new rfl fun p st => ?_⟩
    rw [Around.under_plainId F.plain_list_new _]
    have hown := owner_list_new
    dsimp only
    rw [hown]
    have hC' : ∀ o1 o2, ((h.push o1).push o2).get? 178 = some ⟨oc, od, .cls cd, sl⟩ := fun o1 o2 => Heap.get?_push_of_some _ (Heap.get?_push_of_some _ hC)
    repeat lk
    refine wpAny_load (Heap.get?_push_of_some _ (Heap.get?_push_of_some _ hC)) (wpAny_pure ?_)
    rw [e2]
    refine wpAny_pure (wpAny_pure ?_)
    rw [Heap.size_push]
    exact hq
  repeat (first | exact tail _ | refine wpAny_ite_false (by rfl) ?_ | refine wpAny_ite_true (by rfl) ?_ | lk)

theorem make_acc {rest : List Value} (gr : Gr w h)
    (hq : codeAny (model Pg w) (A.under (.builtin "type.__call__" ⟨.ref 178 :: rest, []⟩)) (.call (.ref 115) ⟨.ref (h.objs.size + 1) :: rest, []⟩) (InitBack (h.objs.size + 1) R) ⟨(h.push emptyDict).push (accObj h.objs.size [] 0), g, dr, t, os⟩) :
    codeAny (model Pg w) A (.call (.ref 178) ⟨rest, []⟩) R ⟨h, g, dr, t, os⟩ := by
  have Y' := cls178 (w := w) gr
  have hi : Looks (model Pg w) h (typeLookup (.ref 178) "__init__") (some (.ref 115)) := looks_findIn gr.X (by kernel_rfl)
  have hb : ∀ self, Looks (model Pg w) h (bindSpecial (.ref 115) self) (.ref 115, [self]) := fun self => bind_fn gr.X self (by kernel_rfl)
  obtain ⟨⟨oc, od, cd, sl, hC, e1, e2, e3⟩, made, base, self, top, call, typ⟩ := cls178 (w := w) gr
  have e4 : cd.mro.isEmpty = false := by rw [e3]; rfl
  refine codeAny_of_tree ?_
  show wpAny _ _ (callAny (.ref 178) _) _ _ _
  refine nd_load hC ?_
  show wpAny _ _ (callAny.viaDunder (.ref 178) _) _ _ _
  unfold callAny.viaDunder
  refine wpAny_bind (call.at ?_)
  dsimp only
  rw [tc_bind]
  refine wpAny_bind (wpAny_pure (wpAny_bind (wpAny_pure ?_)))
  refine wpAny_pure (a := Fin.again (.call (.builtin "type.__call__") ⟨.ref 178 :: rest, []⟩)) (And.intro rfl ?_)
  refine codeAny_call_builtin_at (Code.quiet_builtin _ (by decide +kernel)) entry_typeCall (check_slot tc_kind tc_split typ (tc_args _ _ _) ?_)
  unfold Builtin.«type.__call__»
  have hm : Looks (model Pg w) h (mroOf (.ref 178)) cd.mro := ((Looks.ld (part := none) hC).andThen .now).andThen .now
  repeat (first | refine wpAny_ite_false (by rw [e4]; rfl) ?_ | refine wpAny_ite_false (by rfl) ?_ | with_reducible refine wpAny_call ?_ | lk)
  refine new_list Y' ?_
  have k : ∀ b o, h.get? b = some o → ((h.push emptyDict).push (accObj h.objs.size [] 0)).get? b = some o := fun b o e => Heap.get?_push_of_some _ (Heap.get?_push_of_some _ e)
  have hx : ((h.push emptyDict).push (accObj h.objs.size [] 0)).get? (h.objs.size + 1) = some (accObj h.objs.size [] 0) := by
    have := Heap.get?_push_size (h.push emptyDict) (o := accObj h.objs.size [] 0) rfl
    rwa [Heap.size_push] at this
  have t1 : Looks (model Pg w) ((h.push emptyDict).push (accObj h.objs.size [] 0)) (typeOf (.ref (h.objs.size + 1))) (.ref 178) := (Looks.ld hx).andThen .now
  have s1 := self.keeps k
  have i1 := hi.keeps k
  have b1 := (hb (.ref (h.objs.size + 1))).keeps k
  unfold isInstance callSpecial? specialOf
  repeat (first | with_reducible refine wpAny_call ?_ | lk)
  refine codeAny_mono hq fun r s' z => ?_
  rcases r with e | (v | _ | _ | _) <;> first | exact z | exact z.elim | skip
  obtain ⟨rfl, z⟩ := z
  exact wpAny_pure (wpAny_pure z)
end
end Mine.Internal
end

section
open PySem PySem.W PyProof.Rows PySem.Calls
set_option maxRecDepth 100000
set_option maxHeartbeats 4000000
set_option linter.unusedVariables false
namespace Mine.Internal

theorem entry_list_init' : entryFor table "list.__init__" = some Builtin.«list.__init__» := entryFor_of_tree (by kernel_rfl)

theorem init_acc_ct {w : World} {A : Around} {R : Result → Shared → Prop} {s : Shared} {x d : Addr} {n k : Nat} {t : Tok} (g : Gr w s.heap) (hx : s.heap.get? x = some (accObj d [] n)) (hd : s.heap.get? d = some (dictOf [] k)) (hxd : x ≠ d) (hfx : (240 : Nat) ≤ x) (hfd : (240 : Nat) ≤ d) (hA : A.depth + 1 < recursionLimit)
    (ret : ∀ s', Go [x, d] s s' → Ac s'.heap x d [] → R (.ok (.ret .none)) s') :
    codeAny (model Pg w) A (.call (.ref 115) ⟨[.ref x, .int 0 t], []⟩) R s := by
  have hxa : x ≠ 178 := ne240 hfx (by decide)
  refine enterAt (binds := [("self", .ref x), ("initial_size", .int 0 t)]) [(x, accObj d [] n), (d, dictOf [] k)] g (in2 ⟨hx, fa240 hfx⟩ ⟨hd, fa240 hfd⟩) (by (first | with_reducible exact om_lt (by assumption) | omega)) (by k_is) rfl rfl (by kernel_rfl) (binds_K (K := KK w.params) g.X rfl (by k_is) rfl rfl rfl) (by kernel_rfl) (by kernel_rfl) rfl rfl rfl rfl rfl fun h₀ L h₁ env he e F N g₀ hkp hk' hL => ?_
  have hx₁ := (N (x, accObj d [] n) (by first | exact nilT | exact nil1 | k_mem | simp)).1
  have hd₁ := (N (d, dictOf [] k) (by first | exact nilT | exact nil1 | k_mem | simp)).1
  have fx := (N (x, accObj d [] n) (by first | exact nilT | exact nil1 | k_mem | simp)).2
  have fd := (N (d, dictOf [] k) (by first | exact nilT | exact nil1 | k_mem | simp)).2
  refine ks_wpAt_execs_cons (wpAt_of_wpAny (plainObj_wpAny_Assign_Attribute (rLoc e F (v := .int 0 t) (by kernel_rfl) (rLoc e F (v := .ref x) (by kernel_rfl) ?_))))
  refine acc_setAttr (k' := putN "_initial_size" [] k) (g₀.fr F) hx₁ hd₁ (by kernel_rfl) (by kernel_rfl) (es' := [⟨_, .str "_initial_size" _, .int 0 t⟩]) rfl (by first | exact nilT | exact nil1 | k_mem | simp) fun h₂ e₂ s₂ => ?_
  have F₂ := frSame F s₂ fd.1 fd.2
  have hx₂ : h₂.get? x = some (accObj d [] n) := s₂.extBut _ _ hxd hx₁
  refine ks_wpAt_execs_cons (ks_wpAt_Expr_any (ks_wpAt_MethodCall (rSuper e he (g₀.fr F₂) F₂ hx₂ (by kernel_rfl) (by k_is) rfl rfl rfl rfl (by k_is) rfl rfl (by kernel_rfl) (by kernel_rfl) (by kernel_rfl) (by kernel_rfl) fun h₃ hs₃ k₃ => ?_)) e.inter)
  have g₃ : Gr w h₃ := (g₀.fr F₂).keeps fun b o _ q => k₃ b o q
  have hx₃ := k₃ _ _ hx₂
  refine sup_method (h := h₃) g₃ hs₃ hx₃ (id := "list.__init__") (by kernel_rfl) ty_init wd_slot wd_entry (wd_args _ _ _) (fun q => wd_get g₃ hx₃ (by decide +kernel) q) hxa (by kernel_rfl) ?_
  have hb₄ : (h₃.push (bndObj "method-wrapper" "list.__init__" x)).get? h₃.objs.size = some (bndObj "method-wrapper" "list.__init__" x) := Heap.get?_push_size _ rfl
  have hx₄ := Heap.get?_push_of_some (bndObj "method-wrapper" "list.__init__" x) hx₃
  refine callWith_of (P := fun h => h.get? h₃.objs.size = some (bndObj "method-wrapper" "list.__init__" x)) rfl (fun h q => keep_mach (.inr rfl) h q) (evalArgs_nil3 ⟨hb₄, ?_⟩)
  refine wpAny_call (bnd_call (.inr rfl) hb₄ (fun q => wpAny_of_eq (by kernel_rfl) q) (by decide +kernel) entry_list_init' ?_)
  unfold Builtin.«list.__init__»
  dsimp only
  rw [if_neg (by decide), if_neg (by decide)]
  refine wpAny_bind (acc_items hx₄ ?_)
  refine wpAny_bind (show wpAny _ _ (updateSeq x _) _ _ _ from acc_upd hx₄ (ys := []) rfl (by first | exact nilT | exact nil1 | k_mem | simp) (by first | exact nilT | exact nil1 | k_mem | simp) fun h₅ n₅ e₅ s₅ => ?_)
  refine wpAny_bind (wpAny_letGo (wpAny_pure ⟨.none, rfl, ?_⟩))
  refine wpAt_of_wpAny (wpAny_execs_nil ?_)
  have up : ∀ b o, b ≠ x → h₂.get? b = some o → h₅.get? b = some o := fun b o hb q => s₅.extBut b o hb (Heap.get?_push_of_some _ (k₃ b o q))
  refine ret _ ⟨⟨fun b o hb q => ?_⟩, id, rfl⟩ ⟨⟨n₅, e₅⟩, ⟨_, _, _, _, up d _ (Ne.symm hxd) e₂⟩, (fun q hq => nomatch hq), hfx, hfd⟩
  have hb' : b ≠ x ∧ b ≠ d := ni2 hb
  exact up b o hb'.1 (F₂.keep _ _ (hkp _ _ (by first | exact one1 (hb') | simpa using hb') q))

theorem emptyD : emptyDict = dictOf [] 0 := rfl

theorem Step.two {h : Heap} {o1 o2 : Obj} : Step [] h ((h.push o1).push o2) := ⟨fun b o _ e => Heap.get?_push_of_some _ (Heap.get?_push_of_some _ e)⟩

theorem new_acc_c {w : World} {A : Around} {E : Value → Shared → Prop} {s : Shared} {t : Tok} {Q : Value → Shared → Prop} (g : Gr w s.heap) (hA : A.depth + 4 < recursionLimit)
    (ret : ∀ s' x d, Go [] s s' → Ac s'.heap x d [] → s.heap.get? x = none → s.heap.get? d = none → Q (.ref x) s') : wpAny (model Pg w) A (call (.ref 178) [.int 0 t]) Q E s := by
  obtain ⟨hp, gg, dr, tt, os⟩ := s
  dsimp only at g
  refine wpAny_call (make_acc g ?_)
  have hsz : (240 : Nat) ≤ hp.objs.size := g.size
  have e1 : ((hp.push emptyDict).push (accObj hp.objs.size [] 0)).get? (hp.objs.size + 1) = some (accObj hp.objs.size [] 0) := by
    have := Heap.get?_push_size (hp.push emptyDict) (o := accObj hp.objs.size [] 0) rfl
    rwa [Heap.size_push] at this
  have e2 : ((hp.push emptyDict).push (accObj hp.objs.size [] 0)).get? hp.objs.size = some (dictOf [] 0) := Heap.get?_push_of_some _ (Heap.get?_push_size _ rfl)
  have d1 : hp.get? (hp.objs.size + 1) = none := dead1 hp
  refine init_acc_ct (s := ⟨(hp.push emptyDict).push (accObj hp.objs.size [] 0), gg, dr, tt, os⟩) (g.keeps fun b o _ q => Heap.get?_push_of_some _ (Heap.get?_push_of_some _ q)) e1 e2 (Nat.ne_of_gt (Nat.lt_succ_self _)) (Nat.le_succ_of_le hsz) hsz ?_ fun s' go ac => ?_
  · have : (A.under (.builtin "type.__call__" ⟨[.ref 178, .int 0 t], []⟩)).depth ≤ A.depth + 1 := by
      show A.depth + _ ≤ _
      exact Nat.add_le_add_left (show (Code.builtin "type.__call__" ⟨[.ref 178, .int 0 t], []⟩).weight ≤ 1 from Nat.le_of_ble_eq_true rfl) _
    omega
  · refine ⟨rfl, ret s' _ _ ⟨(Step.two (o1 := emptyDict) (o2 := accObj hp.objs.size [] 0)).thn go.heap (in2 (.inr d1) (.inr (dead_size _))), go.gens, go.os⟩ ac d1 (dead_size _)⟩
end Mine.Internal
end

section
open PySem PySem.W PyProof.Rows PySem.Calls
set_option maxRecDepth 100000
set_option maxHeartbeats 4000000
set_option linter.unusedVariables false
namespace Mine.Internal

section
variable {w : World} {A : Around} {E : Value → Shared → Prop} {s : Shared} {h₀ : Heap} {L m dm : Addr} {mm : Str → Option Value} {R : Result → Shared → Prop}

theorem vf_set {name : Str} {v : Value} {es es' : List DictEntry} {n n' : Nat} {news news' : List (Addr × Obj)} {Q : Unit → Shared → Prop} (g₀ : Gr w h₀) (F : Fr h₀ L s.heap mm) (N : News h₀ L s.heap news) (hm : (m, instObj 94 dm) ∈ news) (hd : (dm, dictOf es n) ∈ news)
    (ht : takerIn (Kf w) 94 name = some none) (hl : (getL name es).isSome = true) (e : (putL name (PyData.keyHash w.params name) (.str name (s.toks + 1)) v es, putN name es n) = (es', n')) (U : Upd dm (dictOf es n) (dictOf es' n') news news') (hz : es'.length ≤ 1000)
    (h : ∀ h', Fr h₀ L h' mm → News h₀ L h' news' → Q () { s with heap := h', toks := s.toks + 2 }) : wpAny (model Pg w) A (setAttr (.ref m) name v) Q E s :=
  set_dict (K := Kf w) (C := 94) (ox := instObj 94 dm) (dx := dm) F g₀.X N (InstAt.of_news N hm hd) rfl (by kernel_rfl) (by kernel_rfl) ht (by kernel_rfl) hl e U hz h

theorem upd1 {o o' : Obj} {p : Addr × Obj} (h : p.1 ≠ dm) : Upd dm o o' [p, (dm, o)] [p, (dm, o')] := .tail h (.head (fun _ hp => nomatch hp))
theorem upd2 {o o' : Obj} {p q : Addr × Obj} (h : p.1 ≠ dm) (h' : q.1 ≠ dm) : Upd dm o o' [q, p, (dm, o)] [q, p, (dm, o')] := .tail h' (upd1 h)

theorem init_vf_ct {mx : Int} {t0 t1 t2 t3 : Tok} {s : Shared} (g : Gr w s.heap) (hm : s.heap.get? m = some (instObj 94 dm)) (hd : s.heap.get? dm = some (dictOf [] 0)) (hmd : m ≠ dm) (hfm : (240 : Nat) ≤ m) (hfd : (240 : Nat) ≤ dm) (lv : Lv 2 A)
    (ret : ∀ s' ll x d, Go [dm] s s' → Mk s'.heap m dm ll x d mx [] [] → s.heap.get? ll = none → s.heap.get? x = none → s.heap.get? d = none → R (.ok (.ret .none)) s') :
    codeAny (model Pg w) A (.call (.ref 35) ⟨[.ref m, .int 0 t0, .int mx t1, .str " " t2, .str " " t3], []⟩) R s := by
  have h1 := lv.room
  refine enter (binds := [("self", .ref m), ("headerlen", .int 0 t0), ("maxlen", .int mx t1), ("continuation_ws", .str " " t2), ("splitchars", .str " " t3)]) [(m, instObj 94 dm), (dm, dictOf [] 0)] g (in2 ⟨hm, fa240 hfm⟩ ⟨hd, fa240 hfd⟩) (by (first | with_reducible exact om_lt (by assumption) | omega)) (by k_is) rfl rfl (by kernel_rfl) (BindsTo.of_eq (by kernel_rfl)) (by kernel_rfl) (by kernel_rfl) rfl rfl rfl rfl rfl fun h₀ L h₁ env he e F N g₀ hkp hk' hL => ?_
  refine wpAny_execs_cons (plainObj_wpAny_Assign_Attribute (rLoc e F (v := .int mx t1) (by kernel_rfl) (rLoc e F (v := .ref m) (by kernel_rfl) (vf_set g₀ F N (by first | exact nilT | exact nil1 | k_mem | simp) (by first | exact nilT | exact nil1 | k_mem | simp) (by kernel_rfl) (by kernel_rfl) rfl (upd1 hmd) (Nat.le_of_ble_eq_true (by kernel_rfl)) fun h₂ F₂ N₂ => ?_))))
  refine wpAny_execs_cons (plainObj_wpAny_Assign_Attribute (rLoc e F₂ (v := .str " " t2) (by kernel_rfl) (rLoc e F₂ (v := .ref m) (by kernel_rfl) (vf_set g₀ F₂ N₂ (.head _) (.tail _ (.head _)) (by kernel_rfl) (by kernel_rfl) rfl (upd1 hmd) (Nat.le_of_ble_eq_true (by kernel_rfl)) fun h₃ F₃ N₃ => ?_))))
  refine wpAny_execs_cons (plainObj_wpAny_Assign_Attribute (rCall (rBui e (g₀.fr F₃) (v := .builtin "len") (by kernel_rfl) (rArgs (P := fun _ => True) (fun h q => keep_bui h q) (wpAny_items_cons (rLoc e F₃ (v := .str " " t2) (by kernel_rfl) (wpAny_items_nil ⟨trivial, PyProof.Rows.len_str (by decide +kernel) ?_⟩)))))))
  refine rLoc e F₃ (v := .ref m) (by kernel_rfl) (vf_set g₀ F₃ N₃ (.head _) (.tail _ (.head _)) (by kernel_rfl) (by kernel_rfl) rfl (upd1 hmd) (Nat.le_of_ble_eq_true (by kernel_rfl)) fun h₄ F₄ N₄ => ?_)
  refine wpAny_execs_cons (plainObj_wpAny_Assign_Attribute (rLoc e F₄ (v := .str " " t3) (by kernel_rfl) (rLoc e F₄ (v := .ref m) (by kernel_rfl) (vf_set g₀ F₄ N₄ (.head _) (.tail _ (.head _)) (by kernel_rfl) (by kernel_rfl) rfl (upd1 hmd) (Nat.le_of_ble_eq_true (by kernel_rfl)) fun h₅ F₅ N₅ => ?_))))
  refine wpAny_execs_cons (plainObj_wpAny_Assign_Attribute (wpAny_List (wpAny_items_nil ⟨(by first | exact Nat.le_of_ble_eq_true rfl | simp [sizeLine]), ?_⟩)))
  have F₆ := F₅.push (lstObj [] 0)
  have N₆ := N₅.push F₅ (lstObj [] 0)
  have hld : h₅.objs.size ≠ dm := Nat.ne_of_gt (Heap.lt_size (N₅ _ (.tail _ (.head _))).1)
  refine rLoc e F₆ (v := .ref m) (by kernel_rfl) (vf_set g₀ F₆ N₆ (.tail _ (.head _)) (.tail _ (.tail _ (.head _))) (by kernel_rfl) (by kernel_rfl) rfl (upd2 hmd hld) (Nat.le_of_ble_eq_true (by kernel_rfl)) fun h₇ F₇ N₇ => ?_)
  have hacc : nsIn (Kf w) mainGlobals "_Accumulator" = some (some (.ref 178)) := by kernel_rfl
  refine wpAny_execs_cons (plainObj_wpAny_Assign_Attribute (rCall (rGlob e (g₀.fr F₇) hacc (rArgs (P := fun h => Gr w h) (keep_fn (by kernel_rfl)) (wpAny_items_cons (rLoc e F₇ (v := .int 0 t0) (by kernel_rfl) (wpAny_items_nil ⟨g₀.fr F₇, ?_⟩)))))))
  refine new_acc_c (g₀.fr F₇) (by show A.depth + 1 + 4 < _; omega) fun s₈ x d go₈ ac₈ dx₈ dd₈ => ?_
  have F₈ := frGo F₇ go₈.heap (by first | exact nilT | exact nil1 | k_mem | simp) (by first | exact nilT | exact nil1 | k_mem | simp)
  have N₈ := newsGo N₇ go₈.heap (by first | exact nilT | exact nil1 | k_mem | simp)
  obtain ⟨nx, ex⟩ := ac₈.obj
  obtain ⟨hs, tk, ti, kd, ed⟩ := ac₈.dict
  have dead0 : ∀ b : Addr, h₇.get? b = none → h₀.get? b = none := fun b q => deadOf (F₇.keep b) q
  have neL : ∀ b : Addr, h₇.get? b = none → b ≠ L := fun b q => by
    obtain ⟨o, es, ep, z, _⟩ := F₇.ns
    exact Ne.symm (alive_ne z q)
  have eD₇ := (N₇ _ (.tail _ (.tail _ (.head _)))).1
  have eM₇ := (N₇ _ (.tail _ (.head _))).1
  have eL₇ := (N₇ _ (.head _)).1
  have N₈' : News h₀ L s₈.heap ((x, accObj d (refs []) nx) :: (d, aDict hs tk 0 ti kd) :: _) := inC ⟨ex, neL _ dx₈, dead0 _ dx₈⟩ (inC ⟨ed, neL _ dd₈, dead0 _ dd₈⟩ N₈)
  refine rLoc e F₈ (v := .ref m) (by kernel_rfl) (vf_set g₀ F₈ N₈' (.tail _ (.tail _ (.tail _ (.head _)))) (.tail _ (.tail _ (.tail _ (.tail _ (.head _))))) (by kernel_rfl) (by kernel_rfl) rfl
    (.tail (Ne.symm (alive_ne eD₇ dx₈)) (.tail (Ne.symm (alive_ne eD₇ dd₈)) (upd2 hmd hld))) (Nat.le_of_ble_eq_true (by kernel_rfl)) fun h₉ F₉ N₉ => wpAny_execs_nil ?_)
  have q1 := (N₉ _ (.head _)).1
  have q2 := (N₉ _ (.tail _ (.head _))).1
  have q3 := (N₉ _ (.tail _ (.tail _ (.head _)))).1
  have q4 := (N₉ _ (.tail _ (.tail _ (.tail _ (.head _))))).1
  have q5 := (N₉ _ (.tail _ (.tail _ (.tail _ (.tail _ (.head _)))))).1
  have dead : ∀ b : Addr, h₀.get? b = none → b ≠ m → b ≠ dm → s.heap.get? b = none := fun b q h1 h2 => deadOf (fun o => hkp b o (nin2 h1 h2)) q
  have x0 := (N₉ _ (.head _)).2.2
  have d0 := (N₉ _ (.tail _ (.head _))).2.2
  have l0 := (N₉ _ (.tail _ (.tail _ (.head _)))).2.2
  refine ret _ h₅.objs.size x d ⟨⟨fun b o hb q => ?_⟩, go₈.gens, go₈.os⟩ ⟨⟨q4, _, q5, ⟨⟨t1, by kernel_rfl⟩, ⟨t3, by kernel_rfl⟩, by kernel_rfl, by kernel_rfl, by kernel_rfl, by kernel_rfl, by kernel_rfl⟩⟩, ⟨[], 0, q3, rfl⟩, ⟨⟨nx, q1⟩, ⟨hs, tk, ti, kd, q2⟩, (fun q hq => nomatch hq), ac₈.fx, ac₈.fd⟩, ?_, hfm, hfd, alive_ne eD₇ dd₈⟩ ?_ ?_ ?_
  · by_cases hbm : b = m
    · exact at_eq hbm q hm q4
    · exact F₉.keep _ _ (hkp b o (nin2 hbm (fun z => hb (List.mem_singleton.mpr z))) q)
  · exact (g₀.fr F₅).size
  · exact dead _ l0 (Nat.ne_of_gt (Heap.lt_size (N₅ _ (.head _)).1)) hld
  · exact dead _ x0 (Ne.symm (alive_ne eM₇ dx₈)) (Ne.symm (alive_ne eD₇ dx₈))
  · exact dead _ d0 (Ne.symm (alive_ne eM₇ dd₈)) (Ne.symm (alive_ne eD₇ dd₈))
end
end Mine.Internal
end

section
open PySem PySem.W PyProof.Rows PySem.Calls
set_option maxRecDepth 100000
set_option maxHeartbeats 4000000
set_option linter.unusedVariables false
namespace Mine.Internal

theorem new_vf_c {w : World} {A : Around} {E : Value → Shared → Prop} {s : Shared} {mx : Int} {t0 t1 t2 t3 : Tok} {Q : Value → Shared → Prop} (g : Gx w s.heap) (lv : Lv 3 A)
    (ret : ∀ s' m dm ll x d, Go [] s s' → Gx w s'.heap → Mk s'.heap m dm ll x d mx [] [] → (∀ b ∈ ([m, dm, ll, x, d] : List Addr), s.heap.get? b = none) → Q (.ref m) s') : wpAny (model Pg w) A (call (.ref 94) [.int 0 t0, .int mx t1, .str " " t2, .str " " t3]) Q E s := by
  obtain ⟨hp, gg, dr, tt, os⟩ := s
  dsimp only at g
  have hsz : (240 : Nat) ≤ hp.objs.size := g.g.size
  refine wpAny_call (make_core (makes_of (K := Kf w) g.g.X (by kernel_rfl)) (looks_findIn (K := Kf w) (r := some (.ref 35)) g.g.X (by kernel_rfl)) (fun self => bind_fn (K := Kf w) g.g.X self (by kernel_rfl)) (.inl rfl) ?_)
  have e1 : ((hp.push emptyDict).push (instObj 94 hp.objs.size)).get? (hp.objs.size + 1) = some (instObj 94 hp.objs.size) := by
    have := Heap.get?_push_size (hp.push emptyDict) (o := instObj 94 hp.objs.size) rfl
    rwa [Heap.size_push] at this
  have e2 : ((hp.push emptyDict).push (instObj 94 hp.objs.size)).get? hp.objs.size = some (dictOf [] 0) := Heap.get?_push_of_some _ (Heap.get?_push_size _ rfl)
  have st : Step [] hp ((hp.push emptyDict).push (instObj 94 hp.objs.size)) := Step.two
  have d1 : hp.get? (hp.objs.size + 1) = none := dead1 hp
  have hdep : (A.under (.builtin "type.__call__" ⟨[.ref 94, .int 0 t0, .int mx t1, .str " " t2, .str " " t3], []⟩)).depth ≤ A.depth + 1 := by
    show A.depth + _ ≤ _
    exact Nat.add_le_add_left (show (Code.builtin "type.__call__" ⟨[.ref 94, .int 0 t0, .int mx t1, .str " " t2, .str " " t3], []⟩).weight ≤ 1 from Nat.le_of_ble_eq_true rfl) _
  have hun : (A.under (.builtin "type.__call__" ⟨[.ref 94, .int 0 t0, .int mx t1, .str " " t2, .str " " t3], []⟩)).units ≤ A.units + 10 := by
    show A.units + _ ≤ _
    exact Nat.add_le_add_left (show (Code.builtin "type.__call__" ⟨[.ref 94, .int 0 t0, .int mx t1, .str " " t2, .str " " t3], []⟩).cUnits ≤ 10 from Nat.le_of_ble_eq_true rfl) _
  refine init_vf_ct (s := ⟨(hp.push emptyDict).push (instObj 94 hp.objs.size), gg, dr, tt, os⟩) (g.g.keeps fun b o _ q => st.keep b o (by first | exact nilT | exact nil1 | k_mem | simp) q) e1 e2 (Nat.ne_of_gt (Nat.lt_succ_self _)) (Nat.le_succ_of_le hsz) hsz (lv.down (by omega) (by omega) rfl) fun s' ll x d go mk dl dx dd => ?_
  have go' : Go [] ⟨hp, gg, dr, tt, os⟩ s' := ⟨st.thn go.heap (fun b hb => .inr (by rw [List.mem_singleton.mp hb]; exact dead_size _)), go.gens, go.os⟩
  exact ⟨rfl, ret s' _ _ ll x d go' (g.step go'.heap nilT) mk (in5 d1 (dead_size _) (dead_back st nil1 dl) (dead_back st nil1 dx) (dead_back st nil1 dd))⟩
end Mine.Internal
end

section
open PySem PySem.W PyProof.Rows PySem.Calls Builtin Builtin.Str
set_option maxRecDepth 100000
set_option maxHeartbeats 4000000
set_option linter.unusedVariables false
namespace Mine.Internal

noncomputable abbrev tabs : List Addr := [140, 147]
structure Fn (w : World) (s₀ : Shared) (L : Addr) (l : List (Str × Value)) (s : Shared) : Prop where
  ns : s.heap.Ns L (mp l)
  gx : Gx w s.heap
  go : Go tabs s₀ s
  dead : s₀.heap.get? L = none
  hi : (240 : Nat) ≤ L

structure Fz (s₀ : Shared) (L b : Addr) : Prop where
  dead : s₀.heap.get? b = none
  ne : b ≠ L
  hi : (240 : Nat) ≤ b

section
variable {w : World} {A : Around} {E : Value → Shared → Prop} {s₀ s s' : Shared} {L b : Addr} {l l' : List (Str × Value)} {R : Result → Shared → Prop}

theorem Fn.fz (f : Fn w s₀ L l s) : Fz s₀ L s.heap.objs.size := by
  have hD := dead_size s.heap
  have hi : (240 : Nat) ≤ s.heap.objs.size := f.gx.g.size
  refine ⟨dead_back f.go.heap ?_ hD, ?_, hi⟩
  · simp only [tabs, List.mem_cons, List.not_mem_nil, or_false, not_or]
    exact ⟨ne240 hi (by decide), ne240 hi (by decide)⟩
  · obtain ⟨o, es, ep, e, _⟩ := f.ns
    exact Ne.symm (alive_ne e hD)
theorem Fn.fzd (f : Fn w s₀ L l s) (hD : s.heap.get? b = none) (hi : (240 : Nat) ≤ b) : Fz s₀ L b := by
  refine ⟨dead_back f.go.heap ?_ hD, ?_, hi⟩
  · simp only [tabs, List.mem_cons, List.not_mem_nil, or_false, not_or]
    exact ⟨ne240 hi (by decide), ne240 hi (by decide)⟩
  · obtain ⟨o, es, ep, e, _⟩ := f.ns
    exact Ne.symm (alive_ne e hD)
theorem Fn.call {W : List Addr} (f : Fn w s₀ L l s) (go : Go W s s') (gx : Gx w s'.heap) (hW : ∀ b ∈ W, b ∈ tabs ∨ Fz s₀ L b) : Fn w s₀ L l s' := by
  refine ⟨ns_step f.ns go.heap fun q => ?_, gx, f.go.thn go fun b hb => (hW b hb).imp id Fz.dead, f.dead, f.hi⟩
  rcases hW _ q with z | z
  · simp only [tabs, List.mem_cons, List.not_mem_nil, or_false] at z
    rcases z with z | z
    · exact ne240 f.hi (by decide) z
    · exact ne240 f.hi (by decide) z
  · exact z.ne rfl
theorem Fn.ext {h' : Heap} {tk : Nat} (f : Fn w s₀ L l s) (st : Step [] s.heap h') : Fn w s₀ L l { s with heap := h', toks := tk } :=
  f.call (Go.of st) (f.gx.step st (by first | exact nilT | exact nil1 | k_mem | simp)) (by first | exact nilT | exact nil1 | k_mem | simp)
theorem Fn.tk {tk : Nat} (f : Fn w s₀ L l s) : Fn w s₀ L l { s with toks := tk } := ⟨f.ns, f.gx, f.go.tk, f.dead, f.hi⟩
theorem Fn.oth {h' : Heap} {tk : Nat} (f : Fn w s₀ L l s) (z : Fz s₀ L b) (st : Step [b] s.heap h') : Fn w s₀ L l { s with heap := h', toks := tk } :=
  f.call (Go.of st) (f.gx.step st (by first | exact one1 (z.hi) | simpa using z.hi)) (in1 (.inr z))
theorem Fn.sto {h' : Heap} {tk : Nat} (f : Fn w s₀ L l s) (n : h'.Ns L (mp l')) (st : Step [L] s.heap h') : Fn w s₀ L l' { s with heap := h', toks := tk } :=
  ⟨n, f.gx.step st (by first | exact one1 (f.hi) | simpa using f.hi), f.go.thn (Go.of st) (in1 (.inr f.dead)), f.dead, f.hi⟩
theorem fSto {M : Model} {env : Env} {ks : List (Str × NameKind)} {y : Str} {v : Value} {Q : Unit → Shared → Prop} (f : Fn w s₀ L l s) (e : En env L ks)
    (h : ∀ s', Fn w s₀ L ((y, v) :: l) s' → Step [L] s.heap s'.heap → Q () s') (hl : ks.lookup y = some .local := by kernel_rfl) : wpAny M A (storeName env y v) Q E s :=
  rStoS e f.ns (fun h' n st => h _ (f.sto n st) st) hl
theorem fn_in {h₁ : Heap} {tk : Nat} (gx : Gx w s.heap) (n : h₁.Ns L (mp l)) (st : Step [] s.heap h₁) (hL : s.heap.get? L = none) (hL' : (240 : Nat) ≤ L) : Fn w s L l { s with heap := h₁, toks := tk } :=
  ⟨n, gx.step st (by first | exact nilT | exact nil1 | k_mem | simp), Go.of (st.mono (by first | exact nilT | exact nil1 | k_mem | simp)), hL, hL'⟩
theorem Fz.ne_of {o : Obj} (z : Fz s₀ L b) (c : Addr) (e : s₀.heap.get? c = some o) : c ≠ b := alive_ne e z.dead
end

section
variable {w : World} {A : Around} {E : Value → Shared → Prop} {s : Shared} {x : Str} {t u : Tok} {Q : Value → Shared → Prop}

theorem splitNew {y : Str} {ys : List Str} (hy : (y.length == 0) = false) (hs : Txt.split x y = ys) (hx : x.length ≤ 1000000) (hn : ys.length ≤ 1000000)
    (h : ∀ l k, l.map (·.1) = ys → Q (.ref s.heap.objs.size) { s with heap := s.heap.push (lstObj (strValues l) 0), toks := k }) :
    wpAny (model Pg w) A (call (.builtin "str.split") [.str x t, .str y u]) Q E s := by
  cases h1 : (decide (x.length < y.length) || decide (strKind x < strKind y))
  · cases hf : (occurrences x y 0 x.length (x.length + 1)).isEmpty
    · have e : Txt.split x y = partsBetween x (occurrences x y 0 x.length (x.length + 1)) y.length := (if_neg (ne_true_of_eq_false h1)).trans (if_neg (ne_true_of_eq_false hf))
      have hz : (partsBetween x (occurrences x y 0 x.length (x.length + 1)) y.length).length ≤ sizeLine := by
        rw [← e, hs]; simp only [sizeLine]; (first | with_reducible exact Nat.le_trans (by assumption) (by decide) | omega)
      refine call_meets F.slot_str_split (typeIs_str _ _ _) F.entry_str_split (F.args_str_split_2 _ _) (meets_str_split_sep x y t u h1 hy hf (by simp only [sizeLine]; (first | with_reducible exact Nat.le_trans (by assumption) (by decide) | omega)) hz) ?_
      show wants Q E _ { s with toks := _, heap := s.heap.push { cls := .type "list", data := .seq (strsFrom s.toks (partsBetween x (occurrences x y 0 x.length (x.length + 1)) y.length)).toArray } }
      rw [strsFrom_eq]
      exact h (numbered s.toks _) _ ((numbered_texts _ _).trans (e.symm.trans hs))
    · exact call_meets F.slot_str_split (typeIs_str _ _ _) F.entry_str_split (F.args_str_split_2 _ _) (meets_str_split_not_found x y t u h1 hy hf)
        (h [(x, t)] s.toks (((if_neg (ne_true_of_eq_false h1)).trans (if_pos hf)).symm.trans hs))
  · exact call_meets F.slot_str_split (typeIs_str _ _ _) F.entry_str_split (F.args_str_split_2 _ _) (meets_str_split_cannot_occur x y t u h1)
      (h [(x, t)] s.toks ((if_pos h1).symm.trans hs))
end

theorem drawsTail {w : World} {A : Around} (hh : A.handled = none) (it l : Addr) (hne : l ≠ it) (items : Array Value) :
    Draws Pg w A it [it, l] items.size (fun i v => items[i]? = some v) (fun i h => h.IsListIter it l i ∧ ∃ its : Array Value, h.IsList l its ∧ its.size = items.size ∧ ∀ j, i ≤ j → its[j]? = items[j]?) where
  live := fun _ _ st => let ⟨o, ho, _⟩ := st.1; ⟨o, ho⟩
  frame := fun _ _ _ st hk => ⟨st.1.at fun o e => hk it (by first | exact nilT | exact nil1 | k_mem | simp) o e, let ⟨its, il, r⟩ := st.2; ⟨its, il.at fun o e => hk l (by first | exact nilT | exact nil1 | k_mem | simp) o e, r⟩⟩
  item := fun i s Q E hi st hQ => by
    obtain ⟨hit, its, il, hz, hj⟩ := st
    have hv : its[i]? = some (items[i]'hi) := by rw [hj i (Nat.le_refl _)]; simp [hi]
    refine wpAny_nextOf_list_item hit il hv fun h' hit' sb => ?_
    exact hQ _ h' s.toks (by simp [hi]) ⟨hit', its, il.at fun o e => sb.extBut _ _ hne e, hz, fun j h => hj j (by omega)⟩ sb
  done := fun s Q E st hE => by
    obtain ⟨hit, its, il, hz, hj⟩ := st
    exact wpAny_nextOf_list_end hh hit il (by simp [hz]) fun h' e ex x => hE h' e ex x
end Mine.Internal
end

section
open PySem PySem.W PyProof.Rows PySem.Calls Builtin Builtin.Str
set_option maxRecDepth 100000
set_option maxHeartbeats 4000000
set_option linter.unusedVariables false
namespace Mine.Internal

theorem str_from {w : World} {A : Around} {E : Value → Shared → Prop} {s : Shared} {value slice : Expr} {x : Str} {t : Tok} {i : Int} {ui : Tok} {sl : Addr} {Q : Value → Shared → Prop} (hsl : s.heap.get? sl = some (slcObj (.int i ui) .none .none)) (hx : x.length ≤ 1000000)
    (h : ∀ t' k, Q (.str (Txt.slice x (some i) none) t') { s with toks := k }) (hs : ∃ l, subscripted slice false (.str x t) (.ref sl) = operate l (getItem (.str x t) (.ref sl))) :
    wpAny (model Pg w) A (subscriptTail value slice (.str x t) (.ref sl)) Q E s :=
  any_tail (typeIs_str _ _ _) F.slot_str_getitem.lookup (wpAny_getItem_str_slice (l := some (i, ui)) (u := none) (st := none) ⟨_, hsl, rfl, rfl⟩ rfl
    (post_val_or_str ⟨Nat.le_trans (Txt.slice_le x _ _) (by simp only [sizeLine]; (first | with_reducible exact Nat.le_trans (by assumption) (by decide) | omega)), fun t' k => h t' k⟩)) hs

noncomputable def cutAll (i : Nat) (ys : List Str) : List Str := ys.map fun y => Txt.slice y (some (i : Int)) none

structure DA (w : World) (s : Shared) (L D I : Addr) (y0 : Str) (t0 : Tok) (l0 : List (Str × Tok)) (i k : Nat) (l : List (Str × Value)) (old : Value) (s' : Shared) : Prop where
  hk : k ≤ i
  f : Fn w s L l s'
  ln : l.lookup ("lines" : Str) = some (Value.ref D)
  en : IsEnum s'.heap (I + 1) I k old
  it : s'.heap.IsStrIter I "str_ascii_iterator" y0 t0 k
  ls : s'.heap.get? D = some (lstObj (strValues l0) 0)
structure DB (w : World) (s : Shared) (L D I : Addr) (l0 : List (Str × Tok)) (ys : List Str) (k : Nat) (t₅ : Tok) (j : Nat) (lj : List (Str × Value)) (old : Value) (lk : List (Str × Tok)) (s' : Shared) : Prop where
  hj : j ≤ ys.length
  f : Fn w s L lj s'
  ln : lj.lookup ("lines" : Str) = some (Value.ref D)
  i : lj.lookup ("i" : Str) = some (Value.int k t₅)
  en : IsEnum s'.heap (I + 1) I j old
  it : s'.heap.IsListIter I D j
  ls : s'.heap.IsList D (strValues lk).toArray
  len : lk.length = ys.length
  same : ∀ q, j ≤ q → lk[q]? = l0[q]?
  txt : lk.map (·.1) = cutAll k (ys.take j) ++ ys.drop j

theorem cut_next {l0 lk : List (Str × Tok)} {ys : List Str} {k j : Nat} {yj : Str} {tj tI : Tok} (hl0 : l0.map (·.1) = ys) (hpj : l0[j]? = some (yj, tj)) (hjl : j < ys.length) (htxt : lk.map (·.1) = cutAll k (ys.take j) ++ ys.drop j) :
    (lk.set j (Txt.slice yj (some (k : Int)) none, tI)).map (·.1) = cutAll k (ys.take (j + 1)) ++ ys.drop (j + 1) := by
  have hyj' : ys[j]? = some yj := by rw [← hl0, List.getElem?_map, hpj]; rfl
  rw [List.map_set, htxt]
  have hlenT : (cutAll k (ys.take j)).length = j := by unfold cutAll; rw [List.length_map, List.length_take]; exact Nat.min_eq_left (Nat.le_of_lt hjl)
  have hd : ys.drop j = yj :: ys.drop (j + 1) := by
    rw [List.drop_eq_getElem_cons hjl, (List.getElem?_eq_some_iff.mp hyj').2]
  have ht : cutAll k (ys.take (j + 1)) = cutAll k (ys.take j) ++ [Txt.slice yj (some (k : Int)) none] := by
    rw [List.take_add_one, hyj']
    unfold cutAll
    rw [List.map_append]
    rfl
  rw [hd, ht, List.append_assoc, List.set_append_right _ _ (Nat.le_of_eq hlenT), hlenT, Nat.sub_self]
  rfl
theorem first_at {l0 : List (Str × Tok)} {ys : List Str} {y0 : Str} (hl0 : l0.map (·.1) = ys) (hy : ys[0]? = some y0) : ∃ t0, l0[0]? = some (y0, t0) := by
  rw [← hl0, List.getElem?_map] at hy
  obtain ⟨p, hp, q⟩ := Option.map_eq_some_iff.mp hy
  exact ⟨p.2, by rw [hp, ← q]⟩
theorem str_at {l0 : List (Str × Tok)} {v : Value} {j : Nat} (hP : (strValues l0).toArray[j]? = some v) : ∃ yj tj, l0[j]? = some (yj, tj) ∧ v = .str yj tj := by
  rw [List.getElem?_toArray, strValues, List.getElem?_map] at hP
  obtain ⟨p, hp, q⟩ := Option.map_eq_some_iff.mp hP
  exact ⟨p.1, p.2, hp, q.symm⟩
theorem ne_blank {c : Nat} (h : c ≠ 32) : ((⟨#[c]⟩ : Str) != ⟨⟨[32]⟩⟩) = true := by
  rw [bne_iff_ne]
  intro q
  have : (#[c] : Array Nat) = #[32] := congrArg Str.cps q
  simp at this
  exact h this
theorem Fn.oth2 {w : World} {s₀ s : Shared} {L a b : Addr} {l : List (Str × Value)} {h' : Heap} {tk : Nat} (f : Fn w s₀ L l s) (z : Fz s₀ L a) (z' : Fz s₀ L b) (st : Step [a, b] s.heap h') : Fn w s₀ L l { s with heap := h', toks := tk } :=
  f.call (Go.of st) (f.gx.step st (in2 z.hi z'.hi)) (in2 (.inr z) (.inr z'))
theorem step2 {h h' : Heap} {a b : Addr} (k : ∀ x o, x ≠ a → x ≠ b → h.get? x = some o → h'.get? x = some o) : Step [a, b] h h' := ⟨fun x o hx q => k x o (fun e => hx (e ▸ .head _)) (fun e => hx (e ▸ .tail _ (.head _))) q⟩

theorem dedent_ct {w : World} {A : Around} {R : Result → Shared → Prop} {s : Shared} {text : Str} {t : Tok} {ys : List Str} {y0 : Str} {i c : Nat} (gx : Gx w s.heap) (lv : Lv 3 A)
    (hs : Txt.split text "\n" = ys) (hx : text.length ≤ 1000000) (hn : ys.length ≤ 400) (hy : ys[0]? = some y0) (hasc : y0.cps.all (· < 128) = true) (hlen : ∀ y ∈ ys, y.length ≤ 100000)
    (hsp : ∀ j, j < i → y0.cps[j]? = some 32) (hc : y0.cps[i]? = some c) (hc32 : c ≠ 32) (hw : ((cutAll i ys).map (·.length)).sum + ys.length ≤ 1048576)
    (ret : ∀ s' t', Go tabs s s' → Gx w s'.heap → R (.ok (.ret (.str (Txt.join "\n" (cutAll i ys)) t'))) s') :
    codeAny (model Pg w) A (.call (.ref 196) ⟨[.str text t], []⟩) R s := by
  have h1 := lv.room
  refine enterS (binds := [("text", .str text t)]) gx.g lv.in_ (by k_is) rfl rfl (by kernel_rfl) (BindsTo.of_eq (by kernel_rfl)) (by kernel_rfl) (by kernel_rfl) rfl rfl rfl rfl rfl fun L h₁ env he e n₁ st₁ hL hL' => ?_
  refine gen fun T₀ E₀ hT₀ => ?_
  have f := fn_in (w := w) (tk := s.toks + 1) gx n₁ st₁ hL hL'
  have hh : (A.deeper env).handled = none := lv.han
  -- lines = text.split('\n')
  refine wpAny_execs_cons (wpAny_Assign_Name (methodCall_KW (kws := []) (rLcl e f.ns (v := .str text t) (by kernel_rfl) (GM.split (rArgs (P := fun _ => True) (fun h q => keep_bui h q) (wpAny_items_cons (wpAny_Constant_str (wpAny_items_nil ⟨trivial, splitNew (by decide +kernel) hs (by (first | with_reducible assumption | omega)) (by (first | with_reducible exact Nat.le_trans (by assumption) (by decide) | omega)) fun l0 k0 hl0 => ?_⟩))))))))
  have f₂ := f.ext (tk := k0) (Step.push h₁ (lstObj (strValues l0) 0))
  have zD := f.fz
  have eD : (h₁.push (lstObj (strValues l0) 0)).get? h₁.objs.size = some (lstObj (strValues l0) 0) := Heap.get?_push_size _ rfl
  refine fSto f₂ e fun s₃ f₃ st₃ => ?_
  have e₃ : s₃.heap.get? h₁.objs.size = some (lstObj (strValues l0) 0) := st₃.keep _ _ (by first | exact one1 (zD.ne) | simpa using zD.ne) eD
  have hlen0 : l0.length = ys.length := by rw [← hl0]; simp
  obtain ⟨t0, hp0⟩ := first_at hl0 hy
  generalize h₁.objs.size = B at f₃ zD e₃
  -- for i, ch in enumerate(lines[0])
  refine wpAny_execs_cons (wpAny_For (rCall (rBui e f₃.gx.g (v := .type "enumerate") (by kernel_rfl) (rArgs (P := fun _ => True) (fun h q => ⟨.machine, .inr (.inl rfl), .of_pure rfl⟩) (wpAny_items_cons (Subscript_ (rLcl e f₃.ns (v := .ref B) (by kernel_rfl) (wpAny_Constant_int (any_tail ⟨_, e₃, rfl⟩ slot_list_getitem.lookup ?_ ⟨_, rfl⟩)))))))))
  refine wpAny_getItem_list (items := (strValues l0).toArray) (x := .str y0 t0) ⟨_, e₃, rfl, 0, rfl⟩ (by decide) (by decide) ?_ ?_
  · rw [List.getElem?_toArray]
    simp [strValues, hp0]
  refine wpAny_items_nil ⟨trivial, call_enumerate_str fun h₄ hE₄ hI₄ hz₄ k₄ => ?_⟩
  rw [show strIterType y0 = "str_ascii_iterator" from if_pos hasc] at hI₄
  have st₄ : Step [] s₃.heap h₄ := ⟨fun b o _ q => k₄ b o q⟩
  have f₄ := f₃.ext (tk := s₃.toks + 1) st₄
  have zI : Fz s L s₃.heap.objs.size := f₃.fz
  have zE : Fz s L (s₃.heap.objs.size + 1) := by
    have := (f₃.ext (tk := s₃.toks) (Step.push s₃.heap (lstObj [] 0))).fz
    rwa [Heap.size_push] at this
  have hDI : B ≠ s₃.heap.objs.size := Nat.ne_of_lt (Heap.lt_size e₃)
  have hDE : B ≠ s₃.heap.objs.size + 1 := Nat.ne_of_lt (Nat.lt_succ_of_lt (Heap.lt_size e₃))
  have hEI : s₃.heap.objs.size + 1 ≠ s₃.heap.objs.size := Nat.succ_ne_self _
  generalize s₃.heap.objs.size = I at hE₄ hI₄ zI zE hDI hDE hEI
  have D := Draws.strAscii (prog := Pg) (w := w) (A := (A.deeper env).in1) hh I y0 t0
  refine wpAny_pyIter_enum hE₄ (forL (fun n s' => ∃ k l old, n = i - k ∧ DA w s L B I y0 t0 l0 i k l old s') (fun n s' E₁ Tn₁ Tm₁ hI g => ?_) i ⟨0, _, _, rfl, Nat.zero_le _, f₄, by kernel_rfl, hE₄, hI₄, k₄ _ _ e₃⟩)
  obtain ⟨k, l, old, hnk, hki, fk, hlk, hEk, hIk, eDk⟩ := hI
  have hlt : k < y0.cps.size := Nat.lt_of_le_of_lt hki (Array.getElem?_eq_some_iff.mp hc).1
  refine wpAny_pyNext_enum_itemD D hEk hIk hlt hEI (by first | exact one1 (hEI) | simpa using hEI) fun v h₅ t₅ hP hEo hI₅ hT₅ hz₅ k₅ => g.some _ _ ?_
  obtain ⟨c', u', hc', ev⟩ := hP
  rw [ev] at hT₅
  have st₅ : Step [I + 1, I] s'.heap h₅ := step2 k₅
  have f₅ : Fn w s L l { s' with heap := h₅, toks := t₅ + 1 } := fk.oth2 zE zI st₅
  have eD₅ := st₅.keep _ _ (nin2 hDE hDI) eDk
  refine wpAny_letOwnedTupleGo_enum hEo fun h₆ hE₆ sb₆ => ?_
  have f₆ := f₅.oth (tk := t₅ + 1) zE (stepOf sb₆)
  have eD₆ := (stepOf sb₆).keep _ _ (by first | exact one1 (hDE) | simpa using hDE) eD₅
  have hTE : s'.heap.objs.size ≠ I + 1 := Nat.ne_of_gt (Heap.lt_size hEk)
  have hT₆ := (stepOf sb₆).keep _ _ (by first | exact one1 (hTE) | simpa using hTE) hT₅
  have hI₆ : h₆.IsStrIter I "str_ascii_iterator" y0 t0 (k + 1) := hI₅.extBut sb₆.extBut (Ne.symm hEI)
  refine assign_Tuple_tuple (items := #[.int k t₅, .str ⟨#[c']⟩ u']) hh ⟨_, hT₆, rfl, 0, rfl⟩ rfl rfl fun h₇ ex₇ => ?_
  have st₇ : Step [] h₆ h₇ := ⟨fun b o _ q => ex₇ b o (Nat.ne_of_lt (Heap.lt_size q)) q⟩
  have f₇ := f₆.ext (tk := t₅ + 1) st₇
  refine assignInOrder_cons (wpAny_assign_Name (fSto f₇ e fun s₈ f₈ st₈ => ?_))
  refine assignInOrder_cons (wpAny_assign_Name (fSto f₈ e fun s₉ f₉ st₉ => assignInOrder_nil ?_))
  have st79 : Step [L] h₆ s₉.heap := (st₇.mono (W' := [L]) (by first | exact nilT | exact nil1 | k_mem | simp)).thn (st₈.thn st₉ (by first | exact nilT | exact nil1 | k_mem | simp)) (by first | exact nilT | exact nil1 | k_mem | simp)
  have eD₉ := st79.keep _ _ (by first | exact one1 (zD.ne) | simpa using zD.ne) eD₆
  refine wpAny_execs_cons (wpAny_If (wpAny_isTrue_Compare1 (rLcl e f₉.ns (v := .str ⟨#[c']⟩ u') lk_here (wpAny_Constant_str (PyProof.Rows.ne_str (wpAny_truthy_bool ?_))))))
  by_cases hk : k < i
  · have ec := Option.some.inj (hc'.symm.trans (hsp k hk))
    rw [show ((⟨#[c']⟩ : Str) != ⟨⟨[32]⟩⟩) = false by rw [ec]; decide +kernel]
    refine if_ff (wpAny_execs_nil (wpAny_execs_nil (g.next _ _ (hnk ▸ Nat.sub_lt_sub_left hk (Nat.lt_succ_self k)) ⟨k + 1, _, v, rfl, hk, f₉.tk, lk_skip (lk_skip hlk), ?_, ?_, eD₉⟩)))
    · exact st79.keep _ _ (by first | exact one1 (zE.ne) | simpa using zE.ne) hE₆
    · obtain ⟨o, q, r⟩ := hI₆
      exact ⟨o, st79.keep _ _ (by first | exact one1 (zI.ne) | simpa using zI.ne) q, r⟩
  · have hki' : k = i := Nat.le_antisymm hki (Nat.not_lt.mp hk)
    have ecc : c' = c := Option.some.inj (hc'.symm.trans (hki' ▸ hc))
    rw [ne_blank (fun q => hc32 (ecc ▸ q))]
    rw [← hki'] at hw ret
    refine if_tt (wpAny_execs_cons (wpAny_Break (g.brk _ ?_)))
    have fA := f₉.tk (tk := s₉.toks + 1)
    -- for j, l in enumerate(lines)
    refine wpAny_execs_cons (wpAny_For (rCall (rBui e fA.gx.g (v := .type "enumerate") (by kernel_rfl) (rArgs (P := fun _ => True) (fun h q => ⟨.machine, .inr (.inl rfl), .of_pure rfl⟩) (wpAny_items_cons (rLcl e fA.ns (v := .ref B) (lk_skip (lk_skip hlk)) (wpAny_items_nil ⟨trivial, call_enumerate_1 eD₉ fun hB hEB hIB hzB kB => ?_⟩)))))))
    have fB := fA.ext (tk := s₉.toks + 1) (h' := hB) ⟨fun b o _ q => kB b o q⟩
    have yI : Fz s L s₉.heap.objs.size := f₉.fz
    have yE : Fz s L (s₉.heap.objs.size + 1) := by
      have := (f₉.ext (tk := s₉.toks) (Step.push s₉.heap (lstObj [] 0))).fz
      rwa [Heap.size_push] at this
    have gDI : B ≠ s₉.heap.objs.size := Nat.ne_of_lt (Heap.lt_size eD₉)
    have gDE : B ≠ s₉.heap.objs.size + 1 := Nat.ne_of_lt (Nat.lt_succ_of_lt (Heap.lt_size eD₉))
    have gEI : s₉.heap.objs.size + 1 ≠ s₉.heap.objs.size := Nat.succ_ne_self _
    generalize s₉.heap.objs.size = J at hEB hIB yI yE gDI gDE gEI
    have D2 := drawsTail (w := w) (A := (A.deeper env).in1) hh J B gDI (strValues l0).toArray
    refine wpAny_pyIter_enum hEB (forL (fun n s' => ∃ j lj old lk, n = ys.length - j ∧ DB w s L B J l0 ys k t₅ j lj old lk s') (fun n s' E₂ Tn₂ Tm₂ hI g2 => ?_) ys.length ⟨0, _, _, l0, rfl, Nat.zero_le _, fB, lk_skip (lk_skip hlk), lk_skip lk_here, hEB, hIB, ⟨_, kB _ _ eD₉, rfl, 0, rfl⟩, hlen0, fun _ _ => rfl, by simpa [cutAll] using hl0⟩)
    obtain ⟨j, lj, oldj, lk, hnj, hj, fj, hl1, hl2, hEj, hIj, hLj, hlk', hsame, htxt⟩ := hI
    have hz0 : (strValues l0).toArray.size = ys.length := by simp [strValues, hlen0]
    have hz1 : (strValues lk).toArray.size = ys.length := by simp [strValues, hlk']
    have hst : s'.heap.IsListIter J B j ∧ ∃ its : Array Value, s'.heap.IsList B its ∧ its.size = (strValues l0).toArray.size ∧ ∀ q, j ≤ q → its[q]? = (strValues l0).toArray[q]? :=
      ⟨hIj, _, hLj, by rw [hz0, hz1], fun q hq => by simp [strValues, hsame q hq]⟩
    by_cases hjl : j < ys.length
    · refine wpAny_pyNext_enum_itemD D2 hEj hst (by rw [hz0]; exact hjl) gEI (by simp; exact Ne.symm gDE) fun v hC tC hP hEo hIC hTC hzC kC => g2.some _ _ ?_
      obtain ⟨yj, tj, hpj, ev⟩ := str_at hP
      rw [ev] at hTC
      have stC : Step [J + 1, J] s'.heap hC := step2 kC
      have fC : Fn w s L lj { s' with heap := hC, toks := tC + 1 } := fj.oth2 yE yI stC
      have LC : hC.IsList B (strValues lk).toArray := hLj.at fun o q => stC.keep _ _ (nin2 gDE gDI) q
      refine wpAny_letOwnedTupleGo_enum hEo fun hD' hED sbD => ?_
      have fD := fC.oth (tk := tC + 1) yE (stepOf sbD)
      have LD : hD'.IsList B (strValues lk).toArray := LC.at fun o q => (stepOf sbD).keep _ _ (by first | exact one1 (gDE) | simpa using gDE) q
      have hTE : s'.heap.objs.size ≠ J + 1 := Nat.ne_of_gt (Heap.lt_size hEj)
      have hTD := (stepOf sbD).keep _ _ (by first | exact one1 (hTE) | simpa using hTE) hTC
      have hID : hD'.IsListIter J B (j + 1) := hIC.1.at fun o q => (stepOf sbD).keep _ _ (by first | exact one1 (Ne.symm gEI) | simpa using Ne.symm gEI) q
      refine assign_Tuple_tuple (items := #[.int j tC, .str yj tj]) hh ⟨_, hTD, rfl, 0, rfl⟩ rfl rfl fun hE' exE => ?_
      have stE : Step [] hD' hE' := ⟨fun b o _ q => exE b o (Nat.ne_of_lt (Heap.lt_size q)) q⟩
      have fE := fD.ext (tk := tC + 1) stE
      refine assignInOrder_cons (wpAny_assign_Name (fSto fE e fun sF fF stF => ?_))
      refine assignInOrder_cons (wpAny_assign_Name (fSto fF e fun sG fG stG => assignInOrder_nil ?_))
      have stEG : Step [L] hD' sG.heap := (stE.mono (W' := [L]) (by first | exact nilT | exact nil1 | k_mem | simp)).thn (stF.thn stG (by first | exact nilT | exact nil1 | k_mem | simp)) (by first | exact nilT | exact nil1 | k_mem | simp)
      have LG : sG.heap.IsList B (strValues lk).toArray := LD.at fun o q => stEG.keep _ _ (by first | exact one1 (zD.ne) | simpa using zD.ne) q
      -- lines[j] = l[i:]
      refine wpAny_execs_cons (wpAny_Assign_Subscript (Subscript_ (rLcl e fG.ns (v := .str yj tj) lk_here (wpAny_Slice (evalPart_s (rLcl e fG.ns (v := .int k t₅) (lk_skip (lk_skip hl2)) (evalPart_n (evalPart_n ?_))))))))
      have fH := fG.ext (tk := sG.toks) (Step.push sG.heap (slcObj (.int k t₅) .none .none))
      have LH : (sG.heap.push (slcObj (.int k t₅) .none .none)).IsList B (strValues lk).toArray := LG.at fun o q => Heap.get?_push_of_some _ q
      have hyj : yj.length ≤ 100000 := hlen yj (by
        rw [← hl0]
        exact List.mem_map.mpr ⟨(yj, tj), List.mem_of_getElem? hpj, rfl⟩)
      refine str_from (Heap.get?_push_size _ rfl) (by (first | with_reducible exact Nat.le_trans (by assumption) (by decide) | omega)) (fun tI kI => ?_) ⟨_, rfl⟩
      have fI := fH.tk (tk := kI)
      refine rLcl e fI.ns (v := .ref B) (lk_skip (lk_skip hl1)) (rLcl e fI.ns (v := .int j tC) (lk_skip lk_here) ?_)
      refine wpAny_setItem_list LH (by (first | with_reducible exact Int.natCast_nonneg _ | omega)) (by omega) (by rw [hz1]; omega) fun hJ LJ sbJ => ?_
      have fJ := fI.oth (tk := kI) zD (stepOf sbJ)
      refine wpAny_execs_nil (g2.next _ _ (hnj ▸ Nat.sub_lt_sub_left hjl (Nat.lt_succ_self j)) ⟨j + 1, _, v, lk.set j (Txt.slice yj (some (k : Int)) none, tI), rfl, hjl, fJ, lk_skip (lk_skip hl1), lk_skip (lk_skip hl2), ?_, ?_, ?_, ?_, ?_, cut_next hl0 hpj hjl htxt⟩)
      · exact sbJ.extBut _ _ (Ne.symm gDE) (Heap.get?_push_of_some _ (stEG.keep _ _ (by first | exact one1 (yE.ne) | simpa using yE.ne) hED))
      · exact hID.at fun o q => sbJ.extBut _ _ (Ne.symm gDI) (Heap.get?_push_of_some _ (stEG.keep _ _ (by first | exact one1 (yI.ne) | simpa using yI.ne) q))
      · have eq : (strValues lk).toArray.setIfInBounds (j : Int).toNat (.str (Txt.slice yj (some (k : Int)) none) tI) = (strValues (lk.set j (Txt.slice yj (some (k : Int)) none, tI))).toArray := by
          simp [strValues, List.map_set]
        rw [← eq]
        exact LJ
      · simpa using hlk'
      · intro q hq
        rw [List.getElem?_set_ne (by omega)]
        exact hsame q (by omega)
    · have ej : j = ys.length := Nat.le_antisymm hj (Nat.not_lt.mp hjl)
      have htxt' : lk.map (·.1) = cutAll k ys := by rw [ej, List.take_length, List.drop_length, List.append_nil] at htxt; exact htxt
      refine wpAny_pyNext_enum_endD D2 hEj (by have h' := hst; rw [hz0, ← ej] at h'; rw [hz0, ← ej]; exact h') fun hC exC => g2.none _ (wpAny_execs_nil ?_)
      have fC := fj.oth (tk := s'.toks) yI (stepExt exC)
      have LC : hC.IsList B (strValues lk).toArray := hLj.at fun o q => exC _ _ gDI q
      refine wpAny_execs_cons (wpAny_Return_some (methodCall_KW (kws := []) (wpAny_Constant_str (GM.join (rArgs (P := fun _ => True) (fun h q => keep_bui h q) (wpAny_items_cons (rLcl e fC.tk.ns (v := .ref B) hl1 (wpAny_items_nil ⟨trivial, ?_⟩))))))))
      refine join_listW (ys := cutAll k ys) LC (by rw [← htxt']; simpa using strsAre lk) (by decide +kernel) (by simpa [cutAll] using hw) fun t' kk => ?_
      exact hT₀ _ _ (ret _ _ fC.go.tk fC.gx)
end Mine.Internal
end

section
open PySem PySem.W PyProof.Rows PySem.Calls Builtin Builtin.Str
set_option linter.unusedVariables false
namespace Mine.Internal

theorem str_ext {a b : Str} (h : a.cps.toList = b.cps.toList) : a = b := Str.ext' (Array.toList_inj.mp h)

noncomputable def jl (s : List Nat) : List (List Nat) → List Nat
  | [] => []
  | [x] => x
  | x :: y :: r => x ++ s ++ jl s (y :: r)
theorem join_list (s : Str) : ∀ A : List Str, (Txt.join s A).cps.toList = jl s.cps.toList (A.map fun a => a.cps.toList) := by
  intro A
  show (glued s A).cps.toList = _
  rw [StrLaws.glued_eq_join]
  induction A with
  | nil => rfl
  | cons x r ih =>
    cases r with
    | nil => rfl
    | cons y r =>
      show (x ++ s ++ Str.join s (y :: r)).cps.toList = _
      rw [Str.cps_append, Str.cps_append, Array.toList_append, Array.toList_append, ih]
      rfl
theorem jl_nil (A : List (List Nat)) : jl [] A = A.flatten := by
  induction A with
  | nil => rfl
  | cons x r ih =>
    cases r with
    | nil => simp [jl]
    | cons y r => rw [jl, ih]; simp
theorem jl_cons (s x : List Nat) (r : List (List Nat)) : jl s (x :: r) = x ++ (r.map fun y => s ++ y).flatten := by
  induction r generalizing x with
  | nil => simp [jl]
  | cons y r ih => rw [jl, ih y]; simp [List.append_assoc]

theorem cut_inj {c : Nat} : ∀ {x x' r r' : List Nat}, c ∉ x → c ∉ x' → x ++ c :: r = x' ++ c :: r' → x = x' ∧ r = r' := by
  intro x
  induction x with
  | nil =>
    intro x' r r' _ h2 h
    cases x' with
    | nil => exact ⟨rfl, (List.cons.inj h).2⟩
    | cons b y => exact absurd ((List.cons.inj h).1 ▸ .head _) h2
  | cons a x ih =>
    intro x' r r' h1 h2 h
    cases x' with
    | nil => exact absurd ((List.cons.inj h).1 ▸ .head _) h1
    | cons b y =>
      have e := List.cons.inj h
      have i := ih (fun q => h1 (List.mem_cons_of_mem _ q)) (fun q => h2 (List.mem_cons_of_mem _ q)) e.2
      exact ⟨by rw [e.1, i.1], i.2⟩
theorem jl_mem {c : Nat} (x y : List Nat) (r : List (List Nat)) : jl [c] (x :: y :: r) = x ++ c :: jl [c] (y :: r) := by
  rw [jl]; simp
theorem jl_inj {c : Nat} : ∀ {A B : List (List Nat)}, A ≠ [] → B ≠ [] → (∀ a ∈ A, c ∉ a) → (∀ b ∈ B, c ∉ b) → jl [c] A = jl [c] B → A = B := by
  intro A
  induction A with
  | nil => exact fun h => absurd rfl h
  | cons x r ih =>
    intro B _ hB0 hA hB h
    cases B with
    | nil => exact absurd rfl hB0
    | cons y r' =>
      cases r with
      | nil =>
        cases r' with
        | nil => exact congrArg (fun z => [z]) h
        | cons z r' =>
          rw [jl_mem] at h
          exact absurd (show c ∈ jl [c] [x] from h ▸ List.mem_append_right _ (.head _)) (hA x (.head _))
      | cons w r =>
        cases r' with
        | nil =>
          rw [jl_mem] at h
          exact absurd (show c ∈ jl [c] [y] from h ▸ List.mem_append_right _ (.head _)) (hB y (.head _))
        | cons z r' =>
          rw [jl_mem, jl_mem] at h
          obtain ⟨e1, e2⟩ := cut_inj (hA x (.head _)) (hB y (.head _)) h
          rw [e1, ih (List.cons_ne_nil _ _) (List.cons_ne_nil _ _) (fun a ha => hA a (List.mem_cons_of_mem _ ha)) (fun b hb => hB b (List.mem_cons_of_mem _ hb)) e2]

theorem nl_str : ("\n" : Str) = ⟨#[10]⟩ := by decide +kernel
theorem es_str : ("" : Str) = ⟨#[]⟩ := by decide +kernel
theorem sp_str : (" " : Str) = ⟨#[32]⟩ := by decide +kernel

theorem split_ne (x : Str) (y : Str) : Txt.split x y ≠ [] := by
  unfold Txt.split
  split
  · simp
  · split
    · simp
    · rw [StrLaws.partsBetween_eq]
      obtain ⟨p, r, e⟩ := StrLaws.partsFrom_ne x y.length 0 (occurrences x y 0 x.length (x.length + 1))
      rw [e]; simp

theorem map_inj {α β : Type} {f : α → β} (hf : ∀ a b, f a = f b → a = b) : ∀ {A B : List α}, A.map f = B.map f → A = B := fun h => (List.map_inj_right hf).mp h

theorem split_join {Ls : List Str} (hne : Ls ≠ []) (h : ∀ x ∈ Ls, 10 ∉ x.cps.toList) : Txt.split (Txt.join "\n" Ls) "\n" = Ls := by
  have h1 := StrLaws.join_split (Txt.join "\n" Ls) "\n"
  have h2 : ∀ p ∈ Txt.split (Txt.join "\n" Ls) "\n", 10 ∉ p.cps.toList := by
    rw [nl_str]
    exact StrLaws.split_free _ 10
  have h3 : jl [10] ((Txt.split (Txt.join "\n" Ls) "\n").map fun a => a.cps.toList) = jl [10] (Ls.map fun a => a.cps.toList) := by
    have e1 := join_list "\n" (Txt.split (Txt.join "\n" Ls) "\n")
    have e2 := join_list "\n" Ls
    have e3 : (Txt.join "\n" (Txt.split (Txt.join "\n" Ls) "\n")) = Txt.join "\n" Ls := by
      show glued _ _ = _
      rw [StrLaws.glued_eq_join, h1]
    rw [e3] at e1
    rw [show ("\n" : Str).cps.toList = [10] by rw [nl_str]] at e1 e2
    rw [← e1, ← e2]
  have h4 := jl_inj (by simpa using split_ne _ _) (by simpa using hne) (by
    intro a ha
    obtain ⟨p, hp, rfl⟩ := List.mem_map.mp ha
    exact h2 p hp) (by
    intro a ha
    obtain ⟨p, hp, rfl⟩ := List.mem_map.mp ha
    exact h p hp) h3
  exact map_inj (fun a b q => str_ext q) h4

noncomputable def gp (m : Nat) : Str := ⟨(List.replicate m 32).toArray⟩
noncomputable def wd (c n : Nat) : Str := ⟨(List.replicate n c).toArray⟩
theorem gp_mul (m : Nat) : Txt.mul " " (m : Int) = gp m := by
  apply str_ext
  rw [sp_str, mul_one_list]
  simp [gp]
theorem gp_mul' (m : Nat) : Txt.mul ⟨⟨[32]⟩⟩ (m : Int) = gp m := by
  rw [← gp_mul m, sp_str]
theorem wd_mul (c n : Nat) : Txt.mul ⟨#[c]⟩ (n : Int) = wd c n := by
  apply str_ext
  rw [mul_one_list]
  simp [wd]

structure Gw (x : Str) : Prop where
  pos : 1 ≤ x.length
  top : x.length ≤ 300
  let_ : ∀ c ∈ x.cps.toList, 97 ≤ c ∧ c ≤ 122

noncomputable def rowT (g : Str) (ws : List Str) : Str := Txt.join "" (ws.map fun x => Txt.join "" [g, x])
theorem rowT_list (g : Str) (ws : List Str) : (rowT g ws).cps.toList = (ws.map fun x => g.cps.toList ++ x.cps.toList).flatten := by
  unfold rowT
  rw [join_list, show ("" : Str).cps.toList = [] by rw [es_str], jl_nil, List.map_map]
  congr 1
  apply List.map_congr_left
  intro x _
  show (Txt.join "" [g, x]).cps.toList = _
  rw [join_list, show ("" : Str).cps.toList = [] by rw [es_str], jl_nil]
  simp
theorem joinG_list (g x : Str) (ws : List Str) : (Txt.join g (x :: ws)).cps.toList = x.cps.toList ++ (ws.map fun y => g.cps.toList ++ y.cps.toList).flatten := by
  rw [join_list, List.map_cons, jl_cons, List.map_map]
  rfl
theorem slice_drop (x : Str) (m : Nat) (h : m ≤ x.length) : (Txt.slice x (some (m : Int)) none).cps.toList = x.cps.toList.drop m := by
  have e := StrLaws.sliceText_from (x := x) (i := (m : Int)) ⟨by (first | with_reducible exact Int.natCast_nonneg _ | omega), by simp [Str.length] at h; simp; (first | with_reducible assumption | omega)⟩
  have e' : Txt.slice x (some (m : Int)) none = StrLaws.sliceText x (some (m : Int)) none := rfl
  rw [e', e]
  show List.take (((x.cps.toList.length : Nat) : Int) - (m : Int)).toNat (List.drop ((m : Int)).toNat x.cps.toList) = _
  rw [Int.toNat_natCast]
  apply List.take_of_length_le
  rw [List.length_drop]
  exact Nat.le_of_eq (Int.toNat_sub _ _).symm

theorem gp_list (m : Nat) : (gp m).cps.toList = List.replicate m 32 := by simp [gp]
theorem gp_len (m : Nat) : (gp m).length = m := by simp [gp, Str.length]
theorem wd_len (c n : Nat) : (wd c n).length = n := by simp [wd, Str.length]

theorem cut_row {m : Nat} {ws : List Str} (hne : ws ≠ []) : Txt.slice (rowT (gp m) ws) (some (m : Int)) none = Txt.join (gp m) ws := by
  apply str_ext
  cases ws with
  | nil => exact absurd rfl hne
  | cons x r =>
    have hl : m ≤ (rowT (gp m) (x :: r)).length := by
      have : (rowT (gp m) (x :: r)).length = (rowT (gp m) (x :: r)).cps.toList.length := by simp [Str.length]
      rw [this, rowT_list]
      simp [gp_list]
    rw [slice_drop _ _ hl, joinG_list, rowT_list, List.map_cons, List.flatten_cons, gp_list, List.append_assoc]
    rw [List.drop_left' (by simp)]
theorem row_head {m : Nat} {x : Str} {r : List Str} (hx : 1 ≤ x.length) : (∀ j, j < m → (rowT (gp m) (x :: r)).cps[j]? = some 32) ∧ ∃ c, x.cps.toList[0]? = some c ∧ (rowT (gp m) (x :: r)).cps[m]? = some c := by
  have e : ∀ j, (rowT (gp m) (x :: r)).cps[j]? = (List.replicate m 32 ++ (x.cps.toList ++ (r.map fun y => (gp m).cps.toList ++ y.cps.toList).flatten))[j]? := fun j => by
    rw [← Array.getElem?_toList, rowT_list, List.map_cons, List.flatten_cons, gp_list, List.append_assoc]
  have hx' : 0 < x.cps.toList.length := by
    have h1 : x.length = x.cps.size := rfl
    simp
    omega
  refine ⟨fun j hj => ?_, x.cps.toList[0], by simp [hx'], ?_⟩
  · rw [e, List.getElem?_append_left (by simpa using hj)]
    simp [hj]
  · rw [e, List.getElem?_append_right (by simp)]
    simp only [List.length_replicate, Nat.sub_self]
    rw [List.getElem?_append_left hx']
    simp [hx']
theorem row_letters {m : Nat} {ws : List Str} (hw : ∀ x ∈ ws, Gw x) : ∀ c ∈ (rowT (gp m) ws).cps.toList, c = 32 ∨ (97 ≤ c ∧ c ≤ 122) := by
  intro c hc
  rw [rowT_list, List.mem_flatten] at hc
  obtain ⟨l, hl, hc⟩ := hc
  obtain ⟨x, hx, rfl⟩ := List.mem_map.mp hl
  rcases List.mem_append.mp hc with h | h
  · rw [gp_list] at h
    exact .inl (List.mem_replicate.mp h).2
  · exact .inr ((hw x hx).let_ c h)
theorem row_noNl {m : Nat} {ws : List Str} (hw : ∀ x ∈ ws, Gw x) : 10 ∉ (rowT (gp m) ws).cps.toList := fun h => by
  rcases row_letters hw 10 h with h | h <;> omega
theorem joinG_letters {m : Nat} {ws : List Str} (hw : ∀ x ∈ ws, Gw x) : ∀ c ∈ (Txt.join (gp m) ws).cps.toList, c = 32 ∨ (97 ≤ c ∧ c ≤ 122) := by
  cases ws with
  | nil => intro c hc; rw [join_list] at hc; simp [jl] at hc
  | cons x r =>
    intro c hc
    rw [joinG_list] at hc
    rcases List.mem_append.mp hc with h | h
    · exact .inr ((hw x (by simp)).let_ c h)
    · have h' : c ∈ (rowT (gp m) r).cps.toList := by rw [rowT_list]; exact h
      exact row_letters (fun y hy => hw y (List.mem_cons_of_mem _ hy)) c h'
theorem joinG_noNl {m : Nat} {ws : List Str} (hw : ∀ x ∈ ws, Gw x) : 10 ∉ (Txt.join (gp m) ws).cps.toList := fun h => by
  rcases joinG_letters hw 10 h with h | h <;> omega
theorem notSpace : ∀ c, c < 123 → 97 ≤ c → Unicode.isSpace c = false := by decide +kernel
theorem row_notSpace {m : Nat} {x : Str} {r : List Str} (hx : Gw x) : Txt.isspace (rowT (gp m) (x :: r)) = false := by
  obtain ⟨c, hc, hcm⟩ := (row_head (m := m) (r := r) hx.pos).2
  have hm : c ∈ x.cps.toList := List.mem_of_getElem? hc
  have hl := hx.let_ c hm
  have hn := notSpace c (by omega) hl.1
  unfold Txt.isspace
  rw [Bool.and_eq_false_iff]
  right
  rw [Array.all_eq_false]
  obtain ⟨h1, h2⟩ := Array.getElem?_eq_some_iff.mp hcm
  exact ⟨m, h1, by rw [h2, hn]; decide⟩
theorem row_ascii {m : Nat} {ws : List Str} (hw : ∀ x ∈ ws, Gw x) : (rowT (gp m) ws).cps.all (· < 128) = true := by
  rw [Array.all_eq_true']
  intro c hc
  rcases row_letters hw c (Array.mem_toList_iff.mpr hc) with h | h <;> simp <;> omega
end Mine.Internal
end

section
open PySem PySem.W PyProof.Rows PySem.Calls Builtin Builtin.Str
set_option maxRecDepth 100000
set_option maxHeartbeats 4000000
set_option linter.unusedVariables false
namespace Mine.Internal

noncomputable def fitS (g : Str) (ws : List Str) : Nat := (ws.map fun x => g.length + x.length).sum
noncomputable def pstep (mx : Int) (g : Str) (st : List (List Str) × List Str) (x : Str) : List (List Str) × List Str :=
  if mx < (fitS g (st.2 ++ [x]) : Int) ∧ st.2 ≠ [] then (st.1 ++ [st.2], [x]) else (st.1, st.2 ++ [x])
noncomputable def pages (mx : Int) (g : Str) (words : List Str) : List (List Str) × List Str := words.foldl (pstep mx g) ([], [])

structure PR (g : Str) (lines : List (List Str)) (cur : List Str) (ls : List Str) (ps : List Pt) : Prop where
  hls : ls = lines.map (rowT g)
  hps : ps.map (·.p) = cur
  gs : ∀ q ∈ ps, q.f = g

section
variable {g : Str} {lines : List (List Str)} {cur ls : List Str} {ps : List Pt}
theorem PR.total (r : PR g lines cur ls ps) : total ps = fitS g cur := by
  obtain ⟨_, rfl, h⟩ := r
  unfold Mine.Internal.total fitS
  rw [List.map_map]
  congr 1
  apply List.map_congr_left
  intro q hq
  show q.len = g.length + q.p.length
  unfold Pt.len
  rw [h q hq]
theorem PR.line (r : PR g lines cur ls ps) : lineTxt ps = rowT g cur := by
  obtain ⟨_, rfl, h⟩ := r
  unfold lineTxt rowT
  rw [List.map_map]
  congr 1
  apply List.map_congr_left
  intro q hq
  show q.txt = _
  unfold Pt.txt
  rw [h q hq]
  rfl
theorem PR.len (r : PR g lines cur ls ps) : ps.length = cur.length := by rw [← r.hps]; simp
theorem PR.llen (r : PR g lines cur ls ps) : ls.length = lines.length := by rw [r.hls]; simp
theorem PR.snoc (r : PR g lines cur ls ps) {q : Pt} {x : Str} (hf : q.f = g) (hp : q.p = x) : PR g lines (cur ++ [x]) ls (ps ++ [q]) :=
  ⟨r.hls, by rw [List.map_append, r.hps]; simp [hp], fun y hy => by
    rcases List.mem_append.mp hy with h | h
    · exact r.gs y h
    · rw [List.mem_singleton.mp h]; exact hf⟩
theorem PR.cut (r : PR g lines cur ls ps) {q : Pt} {x : Str} (hf : q.f = g) (hp : q.p = x) : PR g (lines ++ [cur]) [x] (ls ++ [lineTxt ps]) [q] :=
  ⟨by rw [r.line, List.map_append, r.hls]; simp, by simp [hp], fun y hy => by rw [List.mem_singleton.mp hy]; exact hf⟩
end

theorem fitS_snoc (g : Str) (ws : List Str) (x : Str) : fitS g (ws ++ [x]) = fitS g ws + (g.length + x.length) := by
  unfold fitS; simp

section
variable {w : World} {A : Around} {R : Result → Shared → Prop} {s : Shared} {m dm ll x d : Addr} {mx : Int} {ls cur : List Str} {lines : List (List Str)} {ps : List Pt} {gap word : Str} {t1 t2 : Tok}

theorem append_ct (gx : Gx w s.heap) (M : Mk s.heap m dm ll x d mx ls ps) (r : PR gap lines cur ls ps) (hz : cur.length ≤ 300) (hls : lines.length ≤ 300) (ht : fitS gap (cur ++ [word]) ≤ 100000) (hg : gap.cps[0]? = some 32) (lv : Lv 6 A)
    (ret : ∀ s' ls' ps', Go (muts ll x d) s s' → Gx w s'.heap → Mk s'.heap m dm ll x d mx ls' ps' → PR gap (pstep mx gap (lines, cur) word).1 (pstep mx gap (lines, cur) word).2 ls' ps' → R (.ok (.ret .none)) s') : codeAny (model Pg w) A (.call (.ref 91) ⟨[.ref m, .str gap t1, .str word t2], []⟩) R s := by
  have e1 : total ps + gap.length + word.length = fitS gap (cur ++ [word]) := by rw [fitS_snoc, r.total]; omega
  by_cases h1 : mx < (fitS gap (cur ++ [word]) : Int)
  · by_cases h2 : cur = []
    · have h3 : ps = [] := by
        have := r.len
        rw [h2] at this
        exact List.length_eq_zero_iff.mp (by first | exact one1 (this) | simpa using this)
      have hp : pstep mx gap (lines, cur) word = (lines, cur ++ [word]) := if_neg (fun q => q.2 h2)
      rw [hp] at ret
      subst h3
      have e2 : gap.length + word.length = fitS gap (cur ++ [word]) := by
        have : total [] = 0 := rfl
        omega
      refine append_one gx M (by (first | with_reducible exact om_lle (by assumption) (by assumption) (by decide) | omega)) (by rw [e2]; exact h1) lv fun s' q qf qp go gx' M' => ret s' _ _ go gx' M' ?_
      have := r.snoc (q := q) qf qp
      simpa using this
    · have hp : pstep mx gap (lines, cur) word = (lines ++ [cur], [word]) := if_pos ⟨h1, h2⟩
      rw [hp] at ret
      have hl : 1 ≤ ps.length := by
        rw [r.len]
        exact List.length_pos_iff.mpr h2
      exact append_more gx M (by rw [r.len]; (first | with_reducible assumption | omega)) (by (first | with_reducible exact om_lle (by assumption) (by assumption) (by decide) | omega)) (by rw [e1]; exact h1) hl (by rw [r.llen]; (first | with_reducible assumption | omega)) hg lv fun s' q qf qp go gx' M' => ret s' _ _ go gx' M' (r.cut qf qp)
  · have hp : pstep mx gap (lines, cur) word = (lines, cur ++ [word]) := if_neg (fun q => h1 q.1)
    rw [hp] at ret
    exact append_small gx M (by rw [r.len]; (first | with_reducible assumption | omega)) (by (first | with_reducible exact om_lle (by assumption) (by assumption) (by decide) | omega)) (by rw [e1]; exact h1) lv fun s' q qf qp go gx' M' => ret s' _ _ go gx' M' (r.snoc qf qp)
end
end Mine.Internal
end

section
open PySem PySem.W PyProof.Rows PySem.Calls Builtin Builtin.Str
set_option maxRecDepth 100000
set_option maxHeartbeats 4000000
set_option linter.unusedVariables false
namespace Mine.Internal

theorem pstep_len (mx : Int) (g : Str) (st : List (List Str) × List Str) (x : Str) : (pstep mx g st x).1.length + (pstep mx g st x).2.length ≤ st.1.length + st.2.length + 1 := by
  unfold pstep
  split
  · rename_i h
    have := List.length_pos_iff.mpr h.2
    simp
    omega
  · simp
    omega
theorem pstep_ne (mx : Int) (g : Str) (st : List (List Str) × List Str) (x : Str) : (pstep mx g st x).2 ≠ [] := by
  unfold pstep
  split <;> simp
theorem pstep_mem (mx : Int) (g : Str) (st : List (List Str) × List Str) (x : Str) (P : Str → Prop) (h : ∀ l ∈ st.1 ++ [st.2], ∀ y ∈ l, P y) (hx : P x) : ∀ l ∈ (pstep mx g st x).1 ++ [(pstep mx g st x).2], ∀ y ∈ l, P y := by
  unfold pstep
  split
  · intro l hl y hy
    rcases List.mem_append.mp hl with q | q
    · exact h l q y hy
    · rw [List.mem_singleton.mp q] at hy
      rw [List.mem_singleton.mp hy]
      exact hx
  · intro l hl y hy
    rcases List.mem_append.mp hl with q | q
    · exact h l (List.mem_append_left _ q) y hy
    · rw [List.mem_singleton.mp q] at hy
      rcases List.mem_append.mp hy with z | z
      · exact h st.2 (by first | exact nilT | exact nil1 | k_mem | simp) y z
      · rw [List.mem_singleton.mp z]; exact hx
theorem pstep_full (mx : Int) (g : Str) (st : List (List Str) × List Str) (x : Str) (h : ∀ l ∈ st.1, l ≠ []) : ∀ l ∈ (pstep mx g st x).1, l ≠ [] := by
  unfold pstep
  split
  · rename_i q
    intro l hl
    rcases List.mem_append.mp hl with z | z
    · exact h l z
    · rw [List.mem_singleton.mp z]; exact q.2
  · exact h
theorem fitS_le {g : Str} {ws : List Str} (hg : g.length ≤ 3) (h : ∀ y ∈ ws, y.length ≤ 300) : fitS g ws ≤ 303 * ws.length := by
  unfold fitS
  induction ws with
  | nil => simp
  | cons x r ih =>
    have h1 := ih fun y hy => h y (List.mem_cons_of_mem _ hy)
    have h2 := h x (by first | exact nilT | exact nil1 | k_mem | simp)
    simp only [List.map_cons, List.sum_cons, List.length_cons]
    omega

structure PI (st : List (List Str) × List Str) (k : Nat) : Prop where
  len : st.1.length + st.2.length ≤ k
  mem : ∀ l ∈ st.1 ++ [st.2], ∀ y ∈ l, Gw y
  full : ∀ l ∈ st.1, l ≠ []
  rl : ∀ l ∈ st.1 ++ [st.2], l.length ≤ k
theorem pstep_rl (mx : Int) (g : Str) (st : List (List Str) × List Str) (x : Str) {k : Nat} (h : ∀ l ∈ st.1 ++ [st.2], l.length ≤ k) : ∀ l ∈ (pstep mx g st x).1 ++ [(pstep mx g st x).2], l.length ≤ k + 1 := by
  unfold pstep
  split
  · intro l hl
    rcases List.mem_append.mp hl with q | q
    · exact Nat.le_succ_of_le (h l q)
    · rw [List.mem_singleton.mp q]; simp
  · intro l hl
    rcases List.mem_append.mp hl with q | q
    · exact Nat.le_succ_of_le (h l (List.mem_append_left _ q))
    · rw [List.mem_singleton.mp q]
      have := h st.2 (by first | exact nilT | exact nil1 | k_mem | simp)
      simp
      (first | with_reducible assumption | omega)
theorem PI.step {st : List (List Str) × List Str} {k : Nat} (p : PI st k) {mx : Int} {g x : Str} (hx : Gw x) : PI (pstep mx g st x) (k + 1) :=
  ⟨Nat.le_trans (pstep_len mx g st x) (by have := p.len; omega), pstep_mem mx g st x Gw p.mem hx, pstep_full mx g st x p.full, pstep_rl mx g st x p.rl⟩
theorem PI.cur {st : List (List Str) × List Str} {k : Nat} (p : PI st k) : ∀ y ∈ st.2, Gw y := p.mem st.2 (by first | exact nilT | exact nil1 | k_mem | simp)

noncomputable def rowsOf (mx : Int) (m : Nat) (words : List Str) : List (List Str) := (pages mx (gp m) words).1 ++ [(pages mx (gp m) words).2]

theorem mulOk_sp (m : Nat) (hm : m ≤ 3) : MulOk " " (m : Int) := by
  have h : ∀ m : Nat, m < 4 → MulOk " " (m : Int) := by
    unfold MulOk
    decide +kernel
  exact h m (Nat.lt_succ_of_le hm)

theorem joinT_len (g : Str) (ws : List Str) : (Txt.join g ws).length = (ws.map (·.length)).sum + (ws.length - 1) * g.length := size_glued g ws
theorem rowT_len (g : Str) (ws : List Str) : (rowT g ws).length = fitS g ws := by
  have e : (rowT g ws).length = (rowT g ws).cps.toList.length := by simp [Str.length]
  rw [e, rowT_list, List.length_flatten, List.map_map]
  unfold fitS
  congr 1
  apply List.map_congr_left
  intro x _
  simp [Str.length]
theorem joinG_len_le (m : Nat) (ws : List Str) : (Txt.join (gp m) ws).length ≤ fitS (gp m) ws := by
  cases ws with
  | nil => unfold Txt.join; rw [size_glued]; simp
  | cons x r =>
    rw [← cut_row (by first | exact nilT | exact nil1 | k_mem | simp), ← rowT_len]
    exact Txt.slice_le _ _ _
theorem pages_ne (mx : Int) (g : Str) (words : List Str) (h : words ≠ []) : (pages mx g words).2 ≠ [] := by
  obtain ⟨r, x, rfl⟩ : ∃ r x, words = r ++ [x] := ⟨words.dropLast, words.getLast h, (List.dropLast_concat_getLast h).symm⟩
  unfold pages
  rw [List.foldl_append]
  exact pstep_ne _ _ _ _
theorem sum_le {l : List Str} {n B : Nat} (hn : l.length ≤ n) (h : ∀ y ∈ l, y.length ≤ B) : (l.map (·.length)).sum ≤ n * B :=
  Nat.le_trans (StrLaws.sumLen_le l h) (Nat.mul_le_mul_right _ hn)

section
variable {mx : Int} {m : Nat} {words ls ys zs : List Str} {ps ps0 : List Pt} {q : Pt} {y0 : Str} {c : Nat}
structure RowsF (mx : Int) (m : Nat) (words : List Str) : Prop where
  row : ∀ r ∈ rowsOf mx m words, r ≠ [] ∧ (∀ y ∈ r, Gw y)
  fit : ∀ r ∈ rowsOf mx m words, fitS (gp m) r ≤ 12120
  few : (rowsOf mx m words).length ≤ 41
theorem rows_ok (hm : m ≤ 3) (hn : words.length ≤ 40) (hne : words ≠ []) (p : PI (pages mx (gp m) words) words.length) : RowsF mx m words := by
  have hrow : ∀ r ∈ rowsOf mx m words, r ≠ [] ∧ (∀ y ∈ r, Gw y) := fun r hr => ⟨(List.mem_append.mp hr).elim (p.full r) fun q => by rw [List.mem_singleton.mp q]; exact pages_ne mx (gp m) words hne, p.mem r hr⟩
  refine ⟨hrow, fun r hr => ?_, ?_⟩
  · have h1 := fitS_le (g := gp m) (by rw [gp_len]; exact hm) fun y hy => ((hrow r hr).2 y hy).top
    exact Nat.le_trans h1 (Nat.mul_le_mul_left 303 (Nat.le_trans (p.rl r hr) hn))
  · unfold rowsOf
    rw [List.length_append, List.length_singleton]
    exact Nat.succ_le_succ (Nat.le_trans (Nat.le_trans (Nat.le_add_right _ _) p.len) hn)
theorem RowsF.len (r : RowsF mx m words) : ∀ y ∈ (rowsOf mx m words).map (rowT (gp m)), y.length ≤ 12120 := by
  intro y hy
  obtain ⟨r', hr, rfl⟩ := List.mem_map.mp hy
  rw [rowT_len]
  exact r.fit r' hr
theorem RowsF.sum (r : RowsF mx m words) : (((rowsOf mx m words).map (rowT (gp m))).map (·.length)).sum ≤ 496920 := sum_le (n := 41) (B := 12120) (by rw [List.length_map]; exact r.few) r.len
structure LastF (mx : Int) (m : Nat) (words ls : List Str) (ps0 : List Pt) (q : Pt) : Prop where
  eLs : ls ++ [lineTxt (ps0 ++ [q])] = (rowsOf mx m words).map (rowT (gp m))
  qp : (q.p == ("" : Str)) = false
  few : ps0.length ≤ 300
  tot : total (ps0 ++ [q]) ≤ 100000
  pos : 0 < total (ps0 ++ [q])
  sp : Txt.isspace (lineTxt (ps0 ++ [q])) = false
  lls : ls.length ≤ 300
  sum : ((ls ++ [lineTxt (ps0 ++ [q])]).map (·.length)).sum + (ls ++ [lineTxt (ps0 ++ [q])]).length ≤ 1048576
theorem last_ok (r : RowsF mx m words) (hne : words ≠ []) (hn : words.length ≤ 40) (p : PI (pages mx (gp m) words) words.length) (pr : PR (gp m) (pages mx (gp m) words).1 (pages mx (gp m) words).2 ls ps) : ∃ ps0 q, ps = ps0 ++ [q] ∧ LastF mx m words ls ps0 q := by
  have hcne := pages_ne mx (gp m) words hne
  have hps : ps ≠ [] := fun z => hcne (List.length_eq_zero_iff.mp ((z ▸ pr.len : ([] : List Pt).length = _).symm))
  refine ⟨ps.dropLast, ps.getLast hps, (List.dropLast_concat_getLast hps).symm, ?_⟩
  have eps := List.dropLast_concat_getLast hps
  generalize ps.dropLast = ps0 at eps ⊢
  generalize ps.getLast hps = q at eps ⊢
  subst eps
  have eLs : ls ++ [lineTxt (ps0 ++ [q])] = (rowsOf mx m words).map (rowT (gp m)) := by
    rw [pr.line, pr.hls]
    unfold rowsOf
    rw [List.map_append]
    rfl
  have gq := p.cur q.p (by rw [← pr.hps, List.map_append]; exact List.mem_append_right _ (.head _))
  have hl := p.len
  refine ⟨eLs, ?_, ?_, ?_, ?_, ?_, ?_, ?_⟩
  · rw [beq_eq_false_iff_ne]
    intro z
    exact absurd (z ▸ gq.pos) (by decide +kernel)
  · have := pr.len
    rw [List.length_append, List.length_singleton] at this
    omega
  · rw [pr.total]
    exact Nat.le_trans (r.fit _ (List.mem_append_right _ (.head _))) (by decide)
  · rw [total_snoc]
    have := gq.pos
    unfold Pt.len
    omega
  · rw [pr.line]
    obtain ⟨x0, r0, e0⟩ := List.exists_cons_of_ne_nil hcne
    rw [e0]
    exact row_notSpace (p.cur x0 (by rw [e0]; exact .head _))
  · rw [pr.llen]
    omega
  · rw [eLs, List.length_map]
    have := r.sum
    have := r.few
    omega
structure DedF (m : Nat) (ys zs : List Str) (y0 : Str) (c : Nat) : Prop where
  hs : Txt.split (Txt.join "\n" ys) "\n" = ys
  hx : (Txt.join "\n" ys).length ≤ 1000000
  hn : ys.length ≤ 400
  hy : ys[0]? = some y0
  hasc : y0.cps.all (· < 128) = true
  hlen : ∀ y ∈ ys, y.length ≤ 100000
  hsp : ∀ j, j < m → y0.cps[j]? = some 32
  hc : y0.cps[m]? = some c
  hc32 : c ≠ 32
  hw : ((cutAll m ys).map (·.length)).sum + ys.length ≤ 1048576
  ecut : cutAll m ys = zs
  hs2 : Txt.split (Txt.join "\n" zs) "\n" = zs
  hx2 : (Txt.join "\n" zs).length ≤ 1000000
  hn2 : zs.length ≤ 1000000
theorem RowsF.ded (r : RowsF mx m words) : ∃ y0 c, DedF m ((rowsOf mx m words).map (rowT (gp m))) ((rowsOf mx m words).map (Txt.join (gp m))) y0 c := by
  have hrne : rowsOf mx m words ≠ [] := by unfold rowsOf; simp
  obtain ⟨r0, rr, er⟩ := List.exists_cons_of_ne_nil hrne
  have hr0 : r0 ∈ rowsOf mx m words := by rw [er]; exact .head _
  obtain ⟨x0, r0', e0⟩ := List.exists_cons_of_ne_nil (r.row r0 hr0).1
  subst e0
  have gx0 : Gw x0 := (r.row _ hr0).2 x0 (.head _)
  obtain ⟨hh1, c, hc1, hc2⟩ := row_head (m := m) (x := x0) (r := r0') gx0.pos
  have ecut : cutAll m ((rowsOf mx m words).map (rowT (gp m))) = (rowsOf mx m words).map (Txt.join (gp m)) := by
    unfold cutAll
    rw [List.map_map]
    exact List.map_congr_left fun r' hr => cut_row (r.row r' hr).1
  have hJ12 : ∀ y ∈ (rowsOf mx m words).map (Txt.join (gp m)), y.length ≤ 12120 := by
    intro y hy
    obtain ⟨r', hr, rfl⟩ := List.mem_map.mp hy
    exact Nat.le_trans (joinG_len_le m r') (r.fit r' hr)
  have few := r.few
  have hJs : (((rowsOf mx m words).map (Txt.join (gp m))).map (·.length)).sum ≤ 496920 := sum_le (n := 41) (B := 12120) (by rw [List.length_map]; exact few) hJ12
  have hRs := r.sum
  have one : ("\n" : Str).length = 1 := by decide +kernel
  refine ⟨rowT (gp m) (x0 :: r0'), c, split_join (by rw [Ne, List.map_eq_nil_iff]; exact hrne) ?_, ?_, ?_, ?_, row_ascii (r.row _ hr0).2, fun y hy => Nat.le_trans (r.len y hy) (by decide), hh1, hc2, ?_, ?_, ecut, split_join (by rw [Ne, List.map_eq_nil_iff]; exact hrne) ?_, ?_, ?_⟩
  · intro y hy
    obtain ⟨r', hr, rfl⟩ := List.mem_map.mp hy
    exact row_noNl (r.row r' hr).2
  · rw [joinT_len, one, List.length_map]
    omega
  · rw [List.length_map]
    omega
  · rw [er, List.map_cons]; rfl
  · have := gx0.let_ c (List.mem_of_getElem? hc1)
    omega
  · rw [ecut, List.length_map]
    omega
  · intro y hy
    obtain ⟨r', hr, rfl⟩ := List.mem_map.mp hy
    exact joinG_noNl (r.row r' hr).2
  · rw [joinT_len, one, List.length_map]
    omega
  · rw [List.length_map]
    omega
end

structure SJ (w : World) (s : Shared) (L W I mk dm ll x d : Addr) (m : Nat) (t1 : Tok) (mw : Int) (words : List Str) (k : Nat) (l : List (Str × Value)) (ls : List Str) (ps : List Pt) (s' : Shared) : Prop where
  hk : k ≤ words.length
  f : Fn w s L l s'
  lm : l.lookup ("maker" : Str) = some (Value.ref mk)
  lg : l.lookup ("margin" : Str) = some (Value.int m t1)
  it : s'.heap.IsListIter I W k
  mkr : Mk s'.heap mk dm ll x d mw ls ps
  pr : PR (gp m) (pages mw (gp m) (words.take k)).1 (pages mw (gp m) (words.take k)).2 ls ps
  pi : PI (pages mw (gp m) (words.take k)) k



section
variable {w : World} {A : Around} {R : Result → Shared → Prop} {s : Shared} {W : Addr} {wl : List (Str × Tok)} {words : List Str} {m width : Nat} {t1 t2 : Tok}

theorem muts_fz {L ll x d : Addr} (h1 : Fz s L ll) (h2 : Fz s L x) (h3 : Fz s L d) : ∀ b ∈ muts ll x d, b ∈ tabs ∨ Fz s L b := in5 (.inl (.head _)) (.inl (.tail _ (.head _))) (.inr h2) (.inr h3) (.inr h1)
theorem tabs_list {xs : Array Value} (gx : Gx w s.heap) (hW : s.heap.IsList W xs) : W ∉ tabs := by
  obtain ⟨oc, qc, hcl, _⟩ := hW
  obtain ⟨ps, z⟩ := gx.t1.at
  obtain ⟨ps', z'⟩ := gx.t2.at
  refine nin2 (fun e => ?_) (fun e => ?_)
  · rw [e, z] at qc; cases qc; cases hcl
  · rw [e, z'] at qc; cases qc; cases hcl
theorem pages_next {mx : Int} {g : Str} {k : Nat} {wk : Str} (hwk : words[k]? = some wk) : pages mx g (words.take (k + 1)) = pstep mx g (pages mx g (words.take k)) wk := by
  unfold pages
  rw [List.take_add_one, hwk, List.foldl_append]
  rfl
theorem itNo {h : Heap} {I k : Nat} (i : h.IsListIter I W k) : NoTup h [I] := by
  obtain ⟨o, q, hc, _⟩ := i
  exact noTup_of q (by rw [hc]; rfl)
theorem gp_head (hm : 1 ≤ m) : (gp m).cps[0]? = some 32 := by
  rw [← Array.getElem?_toList, gp_list, List.getElem?_replicate, if_pos (show 0 < m from hm)]
theorem word_at {k : Nat} (hwl : wl.map (·.1) = words) (hk : k < words.length) : ∃ wk tk, (strValues wl).toArray[k]? = some (.str wk tk) ∧ words[k]? = some wk := by
  subst hwl
  rw [List.length_map] at hk
  exact ⟨(wl[k]'hk).1, (wl[k]'hk).2, by simp [strValues, hk], by simp [hk]⟩
theorem cur_fit {mx : Int} {k : Nat} {us : List Str} {wk : Str} (p : PI (pages mx (gp m) us) k) (g : Gw wk) (hm : m ≤ 3) (hk : k < 40) : fitS (gp m) ((pages mx (gp m) us).2 ++ [wk]) ≤ 12120 := by
  have h1 := fitS_le (g := gp m) (ws := (pages mx (gp m) us).2 ++ [wk]) (by rw [gp_len]; exact hm) fun y hy => (List.mem_append.mp hy).elim (fun q => (p.cur y q).top) fun q => by rw [List.mem_singleton.mp q]; exact g.top
  rw [List.length_append, List.length_singleton] at h1
  have := p.len
  omega

theorem set_outG {mx : Int} (emx : ((m : Int) + 1) * (width : Int) = mx) (gx : Gx w s.heap) (lv : Lv 8 A) (hW : s.heap.IsList W (strValues wl).toArray) (hwl : wl.map (·.1) = words) (hgw : ∀ x ∈ words, Gw x) (hne : words ≠ []) (hn : words.length ≤ 40) (hm : 1 ≤ m ∧ m ≤ 3) (hwd : width ≤ 64)
    (ret : ∀ s' D, Go tabs s s' → Gx w s'.heap → LsAt s'.heap D ((rowsOf mx m words).map (Txt.join (gp m))) → s.heap.get? D = none → (240 : Nat) ≤ D → R (.ok (.ret (.ref D))) s') :
    codeAny (model Pg w) A (.call (.ref 222) ⟨[.ref W, .int m t1, .int width t2], []⟩) R s := by
  refine enterS (binds := [("words", .ref W), ("margin", .int m t1), ("width", .int width t2)]) gx.g lv.in_ (by k_is) rfl rfl (by kernel_rfl) (BindsTo.of_eq (by kernel_rfl)) (by kernel_rfl) (by kernel_rfl) rfl rfl rfl rfl rfl fun L h₁ env he e n₁ st₁ hL hL' => ?_
  refine gen fun T₀ E₀ hT₀ => ?_
  have f := fn_in (w := w) (tk := s.toks + 3) gx n₁ st₁ hL hL'
  have hh : (A.deeper env).handled = none := lv.han
  have lv7 : Lv 7 (A.deeper env) := lv.deep
  have lv3 : Lv 3 (A.deeper env) := lv7.less (by decide)
  have lv6 : Lv 6 (A.deeper env) := lv7.less (by decide)
  refine wpAny_execs_cons (wpAny_Assign_Name (rCall (rGlob e f.gx.g (show nsIn (Kf w) mainGlobals "_ValueFormatter" = some (some (.ref 94)) by kernel_rfl) (rArgs (P := fun h => Gr w h) (keep_fn (by kernel_rfl)) (wpAny_items_cons (wpAny_Constant_int (wpAny_items_cons (wpAny_BinOp (wpAny_BinOp (rLcl e f.ns (v := .int m t1) (by kernel_rfl) (wpAny_Constant_int (wpAny_add_int ?_))))))))))))
  refine rLcl e f.ns (v := .int width t2) (by kernel_rfl) (mul_int ?_ (IntMulOk.of_left (intBits_le_64 (by omega) (by omega))))
  refine wpAny_items_cons (wpAny_Constant_str (wpAny_items_cons (wpAny_Constant_str (wpAny_items_nil ⟨f.gx.g, ?_⟩))))
  rw [emx]
  refine new_vf_c (s := { s with heap := h₁, toks := _ }) f.gx lv3 fun s₂ mk dm ll x d go₂ gx₂ M₂ dead₂ => ?_
  have f₂ := (f.tk (tk := s.toks + 3)).call (s' := s₂) ⟨go₂.heap, go₂.gens, go₂.os⟩ gx₂ nilT
  have fzs := muts_fz (f.fzd (dead₂ ll (.tail _ (.tail _ (.head _)))) M₂.fl) (f.fzd (dead₂ x (.tail _ (.tail _ (.tail _ (.head _))))) M₂.acc.fx) (f.fzd (dead₂ d (.tail _ (.tail _ (.tail _ (.tail _ (.head _)))))) M₂.acc.fd)
  refine fSto f₂ e fun s₃ f₃ st₃ => ?_
  have hLs : ∀ b ∈ ([mk, dm, ll, x, d] : List Addr), L ≠ b := fun b hb => by
    obtain ⟨o, es, ep, q, _⟩ := f.ns
    exact alive_ne q (dead₂ b hb)
  have M₃ : Mk s₃.heap mk dm ll x d mx [] [] := M₂.fresh (h₀ := s₂.heap) st₃ (in1 hLs) (noTup_ns f₂.ns)
  have lift : ∀ s', Go tabs s s' → s'.heap.IsList W (strValues wl).toArray := fun s' go => hW.at fun o q => go.heap.keep _ _ (tabs_list gx hW) q
  clear M₂ dead₂ f₂ gx₂ go₂ st₃ emx
  -- for word in words
  refine wpAny_execs_cons (wpAny_For (rLcl e f₃.ns (v := .ref W) (by kernel_rfl) (wpAny_pyIter_list (lift s₃ f₃.go) ?_)))
  have stI := Step.push s₃.heap { cls := .type "list_iterator", data := .fields #[.ref W, .int 0 0] }
  have f₄ := f₃.ext (tk := s₃.toks) stI
  have zI := f₃.fz
  have hIm : ∀ b ∈ ([mk, dm, ll, x, d] : List Addr), s₃.heap.objs.size ≠ b := fun b hb => by
    obtain ⟨o, q⟩ := M₃.alive b hb
    exact Ne.symm (alive_ne q (dead_size _))
  have eI : (s₃.heap.push { cls := .type "list_iterator", data := .fields #[.ref W, .int 0 0] }).IsListIter s₃.heap.objs.size W 0 := ⟨_, Heap.get?_push_size _ rfl, rfl, rfl⟩
  have M₄ := M₃.fresh (h₀ := s₃.heap) stI nilT noTup_nil
  generalize s₃.heap.objs.size = I at zI hIm eI
  refine forT (fun n s' => ∃ k l ls ps, n = words.length - k ∧ SJ w s L W I mk dm ll x d m t1 mx words k l ls ps s') (fun n s' E₁ Tn₁ Tm₁ hI g => ?_) words.length
    ⟨0, _, [], [], rfl, Nat.zero_le _, f₄, by kernel_rfl, by kernel_rfl, eI, M₄, ⟨rfl, rfl, fun _ h => nomatch h⟩, ⟨Nat.le_refl _, by simp [pages], by simp [pages], by simp [pages]⟩⟩
  clear eI M₄ f₄ stI M₃ f₃
  obtain ⟨k, l, ls, ps, hnk, J⟩ := hI
  have hWk := lift s' J.f.go
  by_cases hkl : k < words.length
  · obtain ⟨wk, tk, hpk, hwk⟩ := word_at hwl hkl
    have gwk : Gw wk := hgw wk (List.mem_of_getElem? hwk)
    refine wpAny_pyNext_list_item J.it hWk (x := .str wk tk) hpk fun h₅ hI₅ sb₅ => g.some _ _ ?_
    have f₅ := J.f.oth (tk := s'.toks) zI (stepOf sb₅)
    have M₅ := J.mkr.fresh (h₀ := s'.heap) (stepOf sb₅) (in1 hIm) (itNo J.it)
    refine wpAny_assign_Name (fSto f₅ e fun s₆ f₆ st₆ => ?_)
    have M₆ := M₅.fresh (h₀ := h₅) st₆ (in1 hLs) (noTup_ns f₅.ns)
    have hI₆ : s₆.heap.IsListIter I W (k + 1) := hI₅.at fun o q => st₆.keep _ _ (one1 zI.ne) q
    clear M₅ f₅ hI₅ sb₅ st₆
    -- maker._append_chunk(' ' * margin, word)
    obtain ⟨od, eo, D⟩ := M₆.m0.dict
    refine wpAny_execs_cons (wpAny_Expr (methodCall_KW (kws := []) (rLcl e f₆.ns (v := .ref mk) (lk_skip J.lm) (mk_meth f₆.gx.g M₆.m0.obj eo D.m3 (f := 91) (by kernel_rfl) (by kernel_rfl) (rArgs (P := fun h => Gr w h) (keep_fn (by kernel_rfl)) (wpAny_items_cons (wpAny_BinOp (wpAny_Constant_str (rLcl e f₆.tk.ns (v := .int m t1) (lk_skip J.lg) (SB.mul (mulOk_sp m hm.2) fun t₇ k₇ => ?_)))))))) ) e.inter)
    rw [gp_mul']
    refine wpAny_items_cons (rLcl e f₆.tk.ns (v := .str wk tk) lk_here (wpAny_items_nil ⟨f₆.gx.g, wpAny_call ?_⟩))
    have hfit := cur_fit J.pi gwk hm.2 (Nat.lt_of_lt_of_le hkl hn)
    have hle := J.pi.len
    refine append_ct (s := { s₆ with toks := k₇ }) f₆.gx M₆ J.pr (by omega) (by omega) (by (first | with_reducible exact Nat.le_trans (by assumption) (by decide) | omega)) (gp_head hm.1) lv6 fun s₈ ls₈ ps₈ go₈ gx₈ M₈ PR₈ => ?_
    have f₈ := (f₆.tk (tk := k₇)).call go₈ gx₈ fzs
    exact wpAny_execs_nil (g.next _ _ (hnk ▸ Nat.sub_lt_sub_left hkl (Nat.lt_succ_self k)) ⟨k + 1, _, ls₈, ps₈, rfl, hkl, f₈, lk_skip J.lm, lk_skip J.lg,
      hI₆.at fun o q => go₈.heap.keep _ _ (fun hb => in5 (P := fun b => I = b → False) (fun z => ne240 zI.hi (by decide) z) (fun z => ne240 zI.hi (by decide) z) (hIm x (.tail _ (.tail _ (.tail _ (.head _))))) (hIm d (.tail _ (.tail _ (.tail _ (.tail _ (.head _)))))) (hIm ll (.tail _ (.tail _ (.head _)))) _ hb rfl) q, M₈, pages_next hwk ▸ PR₈, pages_next hwk ▸ J.pi.step gwk⟩)
  · have ek : k = words.length := Nat.le_antisymm J.hk (Nat.not_lt.mp hkl)
    have PRk : PR (gp m) (pages mx (gp m) words).1 (pages mx (gp m) words).2 ls ps := by have := J.pr; rw [ek, List.take_length] at this; exact this
    have PIk : PI (pages mx (gp m) words) words.length := by have := J.pi; rw [ek, List.take_length] at this; exact this
    have rf := rows_ok hm.2 hn hne PIk
    obtain ⟨ps0, q, eps, F⟩ := last_ok rf hne hn PIk PRk
    obtain ⟨y0, c, DF⟩ := rf.ded
    refine wpAny_pyNext_list_end hh J.it hWk (by rw [ek, ← hwl]; simp [strValues]) fun h₅ ex₅ => g.none _ (wpAny_execs_nil ?_)
    have f₅ := J.f.oth (tk := s'.toks) zI (stepExt ex₅)
    have M₅ : Mk h₅ mk dm ll x d mx ls (ps0 ++ [q]) := eps ▸ J.mkr.fresh (h₀ := s'.heap) (stepExt ex₅) (in1 hIm) (itNo J.it)
    obtain ⟨od, eo, D⟩ := M₅.m0.dict
    refine wpAny_execs_cons (wpAny_Return_some (methodCall_KW (kws := []) (rCall (rGlob e f₅.gx.g (show nsIn (Kf w) mainGlobals "_dedent" = some (some (.ref 196)) by kernel_rfl) (rArgs (P := fun h => Gr w h) (keep_fn (by kernel_rfl)) (wpAny_items_cons (methodCall_KW (kws := []) (rLcl e f₅.ns (v := .ref mk) J.lm (mk_meth f₅.gx.g M₅.m0.obj eo D.m2 (f := 42) (by kernel_rfl) (by kernel_rfl) (rArgs (P := fun h => Gr w h) (keep_fn (by kernel_rfl)) (wpAny_items_cons (wpAny_Constant_str (wpAny_items_nil ⟨f₅.gx.g, wpAny_call ?_⟩)))))))))))))
    refine str_m_ct (s := { s' with heap := h₅, toks := s'.toks + 1 }) f₅.gx M₅ F.qp F.few F.tot F.pos F.sp F.lls (by decide +kernel) F.sum lv6 fun s₆ t₆ go₆ gx₆ => ?_
    have f₆ := (f₅.tk (tk := s'.toks + 1)).call go₆ gx₆ fzs
    rw [F.eLs]
    refine wpAny_items_nil ⟨f₆.gx.g, wpAny_call (dedent_ct gx₆ lv3 DF.hs DF.hx DF.hn DF.hy DF.hasc DF.hlen DF.hsp DF.hc DF.hc32 DF.hw fun s₇ t₇ go₇ gx₇ => ?_)⟩
    rw [DF.ecut]
    have f₇ := f₆.call go₇ gx₇ (fun b hb => .inl hb)
    refine GM.split (rArgs (P := fun _ => True) (fun h q => keep_bui h q) (wpAny_items_cons (wpAny_Constant_str (wpAny_items_nil ⟨trivial, splitNew (by decide +kernel) DF.hs2 DF.hx2 DF.hn2 fun lz kz hz => ?_⟩))))
    have f₈ := f₇.ext (tk := kz) (Step.push s₇.heap (lstObj (strValues lz) 0))
    exact hT₀ _ _ <| ret _ _ f₈.go f₈.gx ⟨lz, 0, Heap.get?_push_size _ rfl, hz⟩ f₇.fz.dead f₇.fz.hi
theorem set_out_ct (gx : Gx w s.heap) (lv : Lv 8 A) (hW : s.heap.IsList W (strValues wl).toArray) (hwl : wl.map (·.1) = words) (hgw : ∀ x ∈ words, Gw x) (hne : words ≠ []) (hn : words.length ≤ 40) (hm : 1 ≤ m ∧ m ≤ 3) (hwd : width ≤ 64)
    (ret : ∀ s' D, Go tabs s s' → Gx w s'.heap → LsAt s'.heap D ((rowsOf ((m + 1) * width : Nat) m words).map (Txt.join (gp m))) → s.heap.get? D = none → (240 : Nat) ≤ D → R (.ok (.ret (.ref D))) s') :
    codeAny (model Pg w) A (.call (.ref 222) ⟨[.ref W, .int m t1, .int width t2], []⟩) R s := set_outG (show ((m : Int) + 1) * (width : Int) = (((m + 1) * width : Nat) : Int) by simp) gx lv hW hwl hgw hne hn hm hwd ret
end
end Mine.Internal
end

section
open PySem PySem.W PyProof.Rows PySem.Calls Builtin Builtin.Str
set_option maxRecDepth 100000
set_option maxHeartbeats 4000000
set_option linter.unusedVariables false
namespace Mine.Internal

section
variable {w : World} {A : Around} {R : Result → Shared → Prop} {s : Shared} {t : Tok}

theorem high_ct {v : Int} (gx : Gx w s.heap) (lv : Lv 1 A) (ret : ∀ s' t', Go [] s s' → Gx w s'.heap → R (.ok (.ret (.int ((Builtin.Int.intBits v : Nat) - 1 : Int) t'))) s') :
    codeAny (model Pg w) A (.call (.ref 203) ⟨[.int v t], []⟩) R s := by
  have h1 := lv.room
  refine enterS (binds := [("value", .int v t)]) gx.g lv.in_ (by k_is) rfl rfl (by kernel_rfl) (BindsTo.of_eq (by kernel_rfl)) (by kernel_rfl) (by kernel_rfl) rfl rfl rfl rfl rfl fun L h₁ env he e n₁ st₁ hL hL' => ?_
  refine wpAny_execs_cons (wpAny_Return_some (wpAny_BinOp (methodCall_KW (kws := []) (rLcl e n₁ (v := .int v t) (by kernel_rfl) (getMethod_int_bit_length (callWith_of (P := fun _ => True) rfl (fun h q => keep_bui h q) (evalArgs_nil3 ⟨trivial, call_int_bit_length (wpAny_Constant_int (sub_int ?_))⟩)))))))
  exact ret _ _ (Go.of st₁) (gx.step st₁ (by first | exact nilT | exact nil1 | k_mem | simp))

theorem single_ct {v : Int} (gx : Gx w s.heap) (lv : Lv 1 A) (hv : v ≠ 0) (ret : ∀ s', Go [] s s' → Gx w s'.heap → R (.ok (.ret (.bool (Builtin.bitAnd v (v - 1) == 0)))) s') :
    codeAny (model Pg w) A (.call (.ref 189) ⟨[.int v t], []⟩) R s := by
  have h1 := lv.room
  refine enterS (binds := [("num", .int v t)]) gx.g lv.in_ (by k_is) rfl rfl (by kernel_rfl) (BindsTo.of_eq (by kernel_rfl)) (by kernel_rfl) (by kernel_rfl) rfl rfl rfl rfl rfl fun L h₁ env he e n₁ st₁ hL hL' => ?_
  have f := fn_in (w := w) (tk := s.toks + 1) gx n₁ st₁ hL hL'
  refine wpAny_execs_cons (wpAny_If (wpAny_isTrue_Compare1 (rLcl e f.ns (v := .int v t) (by kernel_rfl) (wpAny_Constant_int (PyProof.Rows.eq_int (wpAny_truthy_bool ?_))))))
  rw [show (v == 0) = false by simpa using hv]
  refine if_ff (wpAny_execs_nil ?_)
  refine wpAny_execs_cons (wpAny_AugAssign_Name (wpAny_loadName_local e.kind ((e.kinds _).trans (by kernel_rfl)) (e.loc ▸ f.tk.ns) (v := .int v t) (by kernel_rfl) (wpAny_BinOp (rLcl e f.tk.ns (v := .int v t) (by kernel_rfl) (wpAny_Constant_int (sub_int (iand_int ?_)))))))
  refine rStoS e f.tk.ns fun h₂ n₂ st₂ => ?_
  refine wpAny_execs_cons (wpAny_Return_some (wpAny_Compare1 (rLcl e n₂ lk_here (wpAny_Constant_int (PyProof.Rows.eq_int ?_)))))
  have st : Step [] s.heap h₂ := st₁.thn st₂ (in1 (.inr hL))
  exact ret _ (Go.of st) (gx.step st (by first | exact nilT | exact nil1 | k_mem | simp))
end
end Mine.Internal
end

section
open PySem PySem.W PyProof.Rows PySem.Calls Builtin Builtin.Str
set_option maxRecDepth 100000
set_option maxHeartbeats 4000000
set_option linter.unusedVariables false
namespace Mine.Internal

noncomputable def placesF : Nat → Nat → List Nat
  | 0, _ => []
  | f + 1, n => if n = 0 then [] else n.log2 :: placesF f (n - 2 ^ n.log2)
noncomputable def placesOf (n : Nat) : List Nat := placesF n n
theorem placesF_more : ∀ (f g n : Nat), n ≤ f → n ≤ g → placesF f n = placesF g n
  | 0, 0, _, _, _ => rfl
  | 0, g + 1, n, h, _ => by
    have : n = 0 := by omega
    subst this
    rfl
  | f + 1, 0, n, _, h => by
    have : n = 0 := by omega
    subst this
    rfl
  | f + 1, g + 1, n, h1, h2 => by
    rw [placesF, placesF]
    by_cases h0 : n = 0
    · rw [if_pos h0, if_pos h0]
    · rw [if_neg h0, if_neg h0]
      congr 1
      have := Nat.two_pow_pos n.log2
      exact placesF_more f g _ (Nat.sub_le_of_le_add (Nat.le_trans h1 (Nat.add_le_add_left this f))) (Nat.sub_le_of_le_add (Nat.le_trans h2 (Nat.add_le_add_left this g)))
theorem placesOf_eq (n : Nat) : placesOf n = if h : n = 0 then [] else n.log2 :: placesOf (n - 2 ^ n.log2) := by
  by_cases h0 : n = 0
  · subst h0; rfl
  · rw [dif_neg h0]
    unfold placesOf
    obtain ⟨k, rfl⟩ : ∃ k, n = k + 1 := ⟨n - 1, by omega⟩
    rw [placesF, if_neg h0]
    congr 1
    have := Nat.two_pow_pos (k + 1).log2
    have h1 : k + 1 - 2 ^ (k + 1).log2 ≤ k := Nat.le_of_lt_succ (Nat.sub_lt (Nat.succ_pos k) this)
    exact placesF_more _ _ _ (by first | exact h1 | omega) (by first | exact h1 | exact Nat.le_refl _ | exact Nat.le_succ_of_le h1 | omega)

noncomputable abbrev ivs (l : List (Int × Tok)) : List Value := l.map fun p => Value.int p.1 p.2
noncomputable def LI (h : Heap) (D : Addr) (ns : List Int) : Prop := ∃ l n, h.get? D = some (lstObj (ivs l) n) ∧ l.map (·.1) = ns
theorem li_step {h h' : Heap} {D : Addr} {ns : List Int} {W : List Addr} (a : LI h D ns) (st : Step W h h') (h1 : D ∉ W) : LI h' D ns :=
  let ⟨l, n, e, r⟩ := a; ⟨l, n, st.keep _ _ h1 e, r⟩
theorem li_append {w : World} {A : Around} {E : Value → Shared → Prop} {s : Shared} {D : Addr} {ns : List Int} {v : Int} {t : Tok} {Q : Value → Shared → Prop} (n : LI s.heap D ns) (hz : ns.length ≤ 10000) (h : ∀ h', LI h' D (ns ++ [v]) → Step [D] s.heap h' → Q .none { s with heap := h' }) :
    wpAny (model Pg w) A (call (.builtin "list.append") [.ref D, .int v t]) Q E s := by
  obtain ⟨l, n, e, hl⟩ := n
  refine wpAny_list_append_plain (items := (ivs l).toArray) ⟨n, e⟩ (fun h' pl sb => ?_) ?_
  · obtain ⟨n', e'⟩ := pl
    have e2 : (ivs l).toArray.push (.int v t) = (ivs (l ++ [(v, t)])).toArray := by simp
    rw [e2] at e'
    exact h h' ⟨l ++ [(v, t)], n', e', by rw [List.map_append, hl]; rfl⟩ (stepOf sb)
  · have : l.length = ns.length := by rw [← hl]; simp
    simp [sizeLine]
    (first | with_reducible exact om_lle (by assumption) (by assumption) (by decide) | omega)
theorem li_meth {w : World} {A : Around} {E : Value → Shared → Prop} {s : Shared} {D : Addr} {ns : List Int} {pl : Sem Bool} {Q : Value × List Value → Shared → Prop} (n : LI s.heap D ns) (h : Q (.builtin "list.append", [.ref D]) s) : wpAny (model Pg w) A (getMethod (.ref D) "append" pl) Q E s := by
  obtain ⟨l, n, e, hl⟩ := n
  exact getMethod_list_append e rfl rfl h
theorem li_isList {h : Heap} {D : Addr} {ns : List Int} (n : LI h D ns) : ∃ l, h.IsList D (ivs l).toArray ∧ l.map (·.1) = ns := by
  obtain ⟨l, n, e, hl⟩ := n
  exact ⟨l, ⟨_, e, rfl, n, rfl⟩, hl⟩

structure WT (w : World) (A : Around) (I : Nat → Shared → Prop) (R : Result → Shared → Prop) (body orelse : List Stmt) (env : Env) (n : Nat) (E1 : Value → Shared → Prop) (T : Bool → Shared → Prop) (Tm : Flow → Shared → Prop) : Prop where
  next : ∀ m s', m < n → I m s' → Tm .next s'
  tt : ∀ s₂, wpAny (model Pg w) A (execs body env) Tm E1 s₂ → T true s₂
  ff : ∀ s₂, wpAny (model Pg w) A (execs orelse env) (fun f s₃ => R (.ok f) s₃) E1 s₂ → T false s₂
theorem whileT {w : World} {A : Around} {s : Shared} {R : Result → Shared → Prop} {test : Expr} {body orelse : List Stmt} {env : Env} (I : Nat → Shared → Prop)
    (turn : ∀ n s E1 T Tm, I n s → WT w A I R body orelse env n E1 T Tm → wpAny (model Pg w) A (isTrue test env (eval test env)) T E1 s) (n : Nat) (h : I n s) : codeAny (model Pg w) A (.whileLoop test body orelse env) R s :=
  codeAny_whileLoop I (fun n s hI => turn n s _ _ (fun f s₃ => match f with
            | .next | .cont => ∃ m, m < n ∧ I m s₃
            | .brk => R (.ok .next) s₃
            | .ret v => R (.ok (.ret v)) s₃) hI ⟨fun m _ hm hi => ⟨m, hm, hi⟩, fun _ h => if_tt h, fun _ h => if_ff h⟩) n h
structure PJ (w : World) (s : Shared) (L D : Addr) (n k : Nat) (l : List (Str × Value)) (ps : List Nat) (tk : Tok) (s' : Shared) : Prop where
  hk : k < 1000
  f : Fn w s L l s'
  l1 : l.lookup ("left" : Str) = some (Value.int k tk)
  l2 : l.lookup ("places" : Str) = some (Value.ref D)
  li : LI s'.heap D (ps.map Int.ofNat)
  hps : ps ++ placesOf k = placesOf n
  few : ps.length + k ≤ 1000
theorem bits_log {k : Nat} (h : ¬ k = 0) : Builtin.Int.intBits ((k : Nat) : Int) - 1 = ((k.log2 : Nat) : Int) := by
  have hbits : Builtin.Int.intBits ((k : Nat) : Int) = k.log2 + 1 := by
    unfold Builtin.Int.intBits
    rw [if_neg (by simpa using h)]
    simp
  rw [hbits]
  simp
theorem last_at {l : List (Int × Tok)} {ps : List Nat} {a : Nat} (h : l.map (·.1) = ps.map Int.ofNat ++ [((a : Nat) : Int)]) : (ivs l).toArray.size = ps.length + 1 ∧ ∃ tz, (ivs l).toArray[ps.length]? = some (.int ((a : Nat) : Int) tz) := by
  have e := congrArg List.length h
  rw [List.length_map, List.length_append, List.length_map, List.length_singleton] at e
  refine ⟨by rw [List.size_toArray, ivs, List.length_map, e], ?_⟩
  have h1 : (l.map (·.1))[ps.length]? = some ((a : Nat) : Int) := by rw [h]; simp
  rw [List.getElem?_map] at h1
  obtain ⟨p, hp, hq⟩ := Option.map_eq_some_iff.mp h1
  exact ⟨p.2, by rw [List.getElem?_toArray, ivs, List.getElem?_map, hp, ← hq]; rfl⟩
theorem pk_le {a k P : Nat} (h : a + k ≤ 1000) (h1 : P ≤ k) (h2 : 0 < P) : a + 1 + (k - P) ≤ 1000 := by omega
theorem less_pow {k : Nat} (h : ¬ k = 0) : (((k : Nat) : Int) - 2 ^ (((k.log2 : Nat) : Int)).toNat) = ((k - 2 ^ k.log2 : Nat) : Int) := by
  rw [Int.toNat_natCast, Int.natCast_sub (Nat.log2_self_le h)]
  simp

section
variable {w : World} {A : Around} {R : Result → Shared → Prop} {s : Shared} {t : Tok}

theorem places_ct {n : Nat} (gx : Gx w s.heap) (lv : Lv 2 A) (hn : n < 1000) (ret : ∀ s' D, Go tabs s s' → Gx w s'.heap → LI s'.heap D ((placesOf n).map Int.ofNat) → s.heap.get? D = none → (240 : Nat) ≤ D → R (.ok (.ret (.ref D))) s') :
    codeAny (model Pg w) A (.call (.ref 210) ⟨[.int n t], []⟩) R s := by
  refine enterS (binds := [("number", .int n t)]) gx.g lv.in_ (by k_is) rfl rfl (by kernel_rfl) (BindsTo.of_eq (by kernel_rfl)) (by kernel_rfl) (by kernel_rfl) rfl rfl rfl rfl rfl fun L h₁ env he e n₁ st₁ hL hL' => ?_
  refine gen fun T₀ E₀ hT₀ => ?_
  have f := fn_in (w := w) (tk := s.toks + 1) gx n₁ st₁ hL hL'
  have lv1 : Lv 1 (A.deeper env) := lv.deep
  refine wpAny_execs_cons (wpAny_Assign_Name (wpAny_List (wpAny_items_nil ⟨(by first | exact Nat.le_of_ble_eq_true rfl | simp [sizeLine]), ?_⟩)))
  have f₂ := f.ext (tk := s.toks + 1) (Step.push h₁ (lstObj [] 0))
  have zD := f.fz
  have eD : LI (h₁.push (lstObj [] 0)) h₁.objs.size [] := ⟨[], 0, Heap.get?_push_size _ rfl, rfl⟩
  generalize h₁.objs.size = D at zD eD
  refine fSto f₂ e fun s₃ f₃ st₃ => ?_
  have eD₃ := li_step eD st₃ (by first | exact one1 (zD.ne) | simpa using zD.ne)
  refine wpAny_execs_cons (wpAny_Assign_Name (rLcl e f₃.ns (v := .int n t) (by kernel_rfl) (fSto f₃ e fun s₄ f₄ st₄ => ?_)))
  have eD₄ := li_step eD₃ st₄ (by first | exact one1 (zD.ne) | simpa using zD.ne)
  refine wpAny_execs_cons (wpAny_While (whileT (fun k s' => ∃ l ps tk, PJ w s L D n k l ps tk s') (fun k s' E₁ Y Tm hI g => ?_) n
    ⟨_, [], t, hn, f₄, lk_here, by kernel_rfl, eD₄, rfl, by simp; omega⟩))
  clear eD₄ f₄ st₄ eD₃ f₃ st₃ eD f₂
  obtain ⟨l, ps, tk, J⟩ := hI
  refine wpAny_isTrue_Compare1 (rLcl e J.f.ns J.l1 (wpAny_Constant_int (PyProof.Rows.gt_int (wpAny_truthy_bool ?_))))
  have f₅ := J.f.tk (tk := s'.toks + 1)
  by_cases h0 : k = 0
  · have hps := J.hps
    rw [h0, placesOf_eq, dif_pos rfl, List.append_nil] at hps
    rw [h0]
    exact g.ff _ (wpAny_execs_nil (wpAny_execs_cons (wpAny_Return_some (rLcl e f₅.ns J.l2 (hT₀ _ _ (ret _ _ f₅.go f₅.gx (hps ▸ J.li) zD.dead zD.hi))))))
  · rw [show decide ((0 : Int) < ((k : Nat) : Int)) = true from decide_eq_true (Int.ofNat_lt.mpr (Nat.pos_of_ne_zero h0))]
    refine g.tt _ ?_
    have hk := J.hk
    have hpl := J.few
    have hhb : nsIn (Kf w) mainGlobals "_high_bit" = some (some (.ref 203)) := by kernel_rfl
    refine wpAny_execs_cons (gen fun Y1 Z1 g1 => wpAny_Expr (methodCall_KW (kws := []) (rLcl e f₅.ns J.l2 (li_meth J.li (rArgs (P := fun _ => True) (fun h q => keep_bui h q) (wpAny_items_cons (rCall (rGlob e f₅.gx.g hhb (rArgs (P := fun h => Gr w h) (keep_fn (by kernel_rfl)) (wpAny_items_cons (rLcl e f₅.ns J.l1 (wpAny_items_nil ⟨f₅.gx.g, wpAny_call (high_ct f₅.gx lv1 fun s₆ t₆ go₆ gx₆ => ?_)⟩))))))))))) e.inter)
    have f₆ := f₅.call go₆ gx₆ (by first | exact nilT | exact nil1 | k_mem | simp)
    have eD₆ := li_step J.li go₆.heap (by first | exact nilT | exact nil1 | k_mem | simp)
    rw [bits_log h0]
    refine wpAny_items_nil ⟨trivial, li_append eD₆ (by simp; omega) fun h₇ e₇ st₇ => g1 _ _ ?_⟩
    have f₇ := f₆.oth (tk := s₆.toks) zD st₇
    -- left -= 2 ** places[-1]
    obtain ⟨l7, il7, hl7⟩ := li_isList e₇
    obtain ⟨hsz, tz, hz7⟩ := last_at hl7
    refine wpAny_execs_cons (gen fun Y2 Z2 g2 => wpAny_AugAssign_Name (wpAny_loadName_local e.kind ((e.kinds _).trans (by kernel_rfl)) (e.loc ▸ f₇.ns) J.l1 (wpAny_BinOp (wpAny_Constant_int (Subscript_ (rLcl e f₇.tk.ns J.l2 (wpAny_UnaryOp (wpAny_Constant_int (neg_int (any_tail il7.typeIs slot_list_getitem.lookup (wpAny_getItem_list_neg (x := .int ((k.log2 : Nat) : Int) tz) il7 (by decide) ?_ (by decide) ?_ ?_) ⟨_, rfl⟩))))))))))
    · rw [hsz]
      omega
    · rw [hsz, show ((-1 : Int) + ((ps.length + 1 : Nat) : Int)).toNat = ps.length by omega]
      exact hz7
    have hlog : k.log2 < 10 := by
      rw [Nat.log2_lt h0]
      omega
    refine pow_int (by (first | with_reducible exact Int.natCast_nonneg _ | omega)) ?_ ?_
    · have : (Builtin.Int.intBits 2 : Int) = 2 := by decide
      rw [this]
      omega
    have hle : 2 ^ k.log2 ≤ k := Nat.log2_self_le h0
    refine isub_int ?_
    rw [less_pow h0]
    refine fSto f₇.tk e fun s₈ f₈ st₈ => g2 _ _ (wpAny_execs_nil (g.next (k - 2 ^ k.log2) _ (Nat.sub_lt (Nat.pos_of_ne_zero h0) (Nat.two_pow_pos _)) ⟨_, ps ++ [k.log2], _, Nat.lt_of_le_of_lt (Nat.sub_le _ _) hk, f₈, lk_here, lk_skip J.l2, ?_, ?_, ?_⟩))
    · rw [List.map_append]
      exact li_step e₇ st₈ (one1 zD.ne)
    · rw [← J.hps, placesOf_eq k, dif_neg h0, List.append_assoc]
      rfl
    · rw [List.length_append, List.length_singleton]
      exact pk_le hpl (Nat.log2_self_le h0) (Nat.two_pow_pos _)
end
end Mine.Internal
end

section
open PySem PySem.W PyProof.Rows PySem.Calls Builtin Builtin.Str
set_option maxRecDepth 100000
set_option maxHeartbeats 4000000
set_option linter.unusedVariables false
namespace Mine.Internal

noncomputable def wIn (st : Nat × Nat) (k : Nat) : Nat × Nat := (st.1 * (st.2 + 1) / k, st.2 + 1)
noncomputable def wNum (st : Nat × Nat) (n : Nat) : Nat × Nat := (List.range' 1 n).foldl wIn st
noncomputable def waysOf (ns : List Nat) : Nat := (ns.foldl wNum (1, 0)).1

theorem wIn_thing (l : List Nat) : ∀ st : Nat × Nat, (l.foldl wIn st).2 = st.2 + l.length := by
  induction l with
  | nil => intro st; rfl
  | cons x r ih =>
    intro st
    rw [List.foldl_cons, ih]
    simp [wIn]
    omega
theorem wNum_thing (st : Nat × Nat) (n : Nat) : (wNum st n).2 = st.2 + n := by
  unfold wNum
  rw [wIn_thing]
  simp
theorem ways_thing (l : List Nat) : ∀ st : Nat × Nat, (l.foldl wNum st).2 = st.2 + l.sum := by
  induction l with
  | nil => intro st; rfl
  | cons x r ih =>
    intro st
    rw [List.foldl_cons, ih, wNum_thing]
    simp
    omega
theorem sum_take (l : List Nat) (k : Nat) : (l.take k).sum ≤ l.sum := by
  have : l.sum = (l.take k).sum + (l.drop k).sum := by rw [← List.sum_append, List.take_append_drop]
  omega

structure WA (w : World) (s : Shared) (L D I : Addr) (ns : List Nat) (k : Nat) (st : Nat × Nat) (l : List (Str × Value)) (tw tt : Tok) (s' : Shared) : Prop where
  hk : k ≤ ns.length
  f : Fn w s L l s'
  hw : l.lookup ("ways" : Str) = some (Value.int st.1 tw)
  ht : l.lookup ("things" : Str) = some (Value.int st.2 tt)
  it : s'.heap.IsListIter I D k
structure WB (w : World) (s : Shared) (L D I J : Addr) (nk k j : Nat) (st : Nat × Nat) (l : List (Str × Value)) (tw tt : Tok) (s' : Shared) : Prop where
  hj : j ≤ nk
  f : Fn w s L l s'
  hw : l.lookup ("ways" : Str) = some (Value.int st.1 tw)
  ht : l.lookup ("things" : Str) = some (Value.int st.2 tt)
  it : s'.heap.IsListIter I D k
  ir : IsRangeIter s'.heap J (1 + j) ((nk : Int) - j) 1

theorem ivs_nat {l0 : List (Int × Tok)} {ns : List Nat} (hl : l0.map (·.1) = ns.map Int.ofNat) {k : Nat} {v : Value} (hv : (ivs l0)[k]? = some v) : ∃ nk t, ns[k]? = some nk ∧ v = .int (nk : Int) t ∧ ns.getD k 0 = nk ∧ k < ns.length := by
  rw [ivs, List.getElem?_map] at hv
  obtain ⟨p, hp, hv⟩ := Option.map_eq_some_iff.mp hv
  have h2 : (ns.map Int.ofNat)[k]? = some p.1 := by rw [← hl, List.getElem?_map, hp]; rfl
  rw [List.getElem?_map] at h2
  obtain ⟨n, hn, e⟩ := Option.map_eq_some_iff.mp h2
  exact ⟨n, p.2, hn, by rw [← hv, ← e]; rfl, by rw [List.getD, hn]; rfl, (List.getElem?_eq_some_iff.mp hn).1⟩
theorem wIn_next {st sj : Nat × Nat} {j : Nat} (h : (List.range' 1 j).foldl wIn st = sj) : (List.range' 1 (j + 1)).foldl wIn st = wIn sj (1 + j) := by
  rw [List.range'_1_concat, List.foldl_append, h]
  rfl
theorem wIn_div (a b j : Nat) : ((a : Int) * ((b : Int) + 1)).fdiv (1 + (j : Int)) = ((a * (b + 1) / (1 + j) : Nat) : Int) := by
  rw [Int.fdiv_eq_ediv_of_nonneg _ (by omega)]
  simp
theorem wIn_two (sj : Nat × Nat) (j : Nat) : ((sj.2 : Int) + 1) = ((wIn sj j).2 : Int) := by simp [wIn]
theorem wNum_few {ns : List Nat} {k nk : Nat} (hnk : ns[k]? = some nk) (hs : ns.sum ≤ 1000) : ((ns.take k).foldl wNum (1, 0)).2 + nk ≤ 1000 := by
  rw [ways_thing]
  have h1 : (ns.take (k + 1)).sum = (ns.take k).sum + nk := by rw [List.take_add_one, hnk]; simp
  have h2 := sum_take ns (k + 1)
  simp only [Nat.zero_add]
  omega
theorem wNum_next {ns : List Nat} {k nk : Nat} {st : Nat × Nat} (hnk : ns[k]? = some nk) (h : (ns.take k).foldl wNum (1, 0) = st) : (ns.take (k + 1)).foldl wNum (1, 0) = wNum st nk := by
  rw [List.take_add_one, hnk, List.foldl_append, h]
  rfl
section
variable {w : World} {A : Around} {R : Result → Shared → Prop} {s : Shared} {t : Tok}

theorem ways_ct {D : Addr} {ns : List Nat} (gx : Gx w s.heap) (lv : Lv 2 A) (hD : LI s.heap D (ns.map Int.ofNat)) (hn : ns.length ≤ 100) (hs : ns.sum ≤ 1000) (hm : ∀ n ∈ ns, n ≤ 1000) (hDn : D ∉ tabs)
    (ret : ∀ s' t', Go tabs s s' → Gx w s'.heap → R (.ok (.ret (.int (waysOf ns) t'))) s') :
    codeAny (model Pg w) A (.call (.ref 234) ⟨[.ref D], []⟩) R s := by
  refine enterS (binds := [("numbers", .ref D)]) gx.g lv.in_ (by k_is) rfl rfl (by kernel_rfl) (BindsTo.of_eq (by kernel_rfl)) (by kernel_rfl) (by kernel_rfl) rfl rfl rfl rfl rfl fun L h₁ env he e n₁ st₁ hL hL' => ?_
  refine gen fun T₀ E₀ hT₀ => ?_
  have f := fn_in (w := w) (tk := s.toks + 1) gx n₁ st₁ hL hL'
  have hh : (A.deeper env).handled = none := lv.han
  refine wpAny_execs_cons (wpAny_Assign_Name (wpAny_Constant_int (fSto f.tk e fun s₂ f₂ st₂ => ?_)))
  refine wpAny_execs_cons (wpAny_Assign_Name (wpAny_Constant_int (fSto f₂.tk e fun s₃ f₃ st₃ => ?_)))
  obtain ⟨l0, il0, hl0⟩ := li_isList hD
  have hlen0 : (ivs l0).length = ns.length := by rw [ivs, List.length_map, ← List.length_map (·.1), hl0, List.length_map]
  have lift : ∀ s', Go tabs s s' → s'.heap.IsList D (ivs l0).toArray := fun s' go => il0.at fun o q => go.heap.keep _ _ hDn q
  refine wpAny_execs_cons (wpAny_For (gen fun Y0 Z0 g0 => rLcl e f₃.ns (v := .ref D) (by kernel_rfl) (g0 _ _ (wpAny_pyIter_list (lift s₃ f₃.go) ?_))))
  have stI := Step.push s₃.heap { cls := .type "list_iterator", data := .fields #[.ref D, .int 0 0] }
  have f₄ := f₃.ext (tk := s₃.toks) stI
  have zI := f₃.fz
  have eI : (s₃.heap.push { cls := .type "list_iterator", data := .fields #[.ref D, .int 0 0] }).IsListIter s₃.heap.objs.size D 0 := ⟨_, Heap.get?_push_size _ rfl, rfl, rfl⟩
  generalize s₃.heap.objs.size = I at zI eI
  refine forT (fun n s' => ∃ k l tw tt, n = ns.length - k ∧ WA w s L D I ns k ((ns.take k).foldl wNum (1, 0)) l tw tt s') (fun n s' E₁ Tn₁ Tm₁ hI g => ?_) ns.length
    ⟨0, _, _, _, rfl, Nat.zero_le _, f₄, lk_skip lk_here, lk_here, eI⟩
  clear eI f₄ stI f₃ st₃ f₂ st₂ f
  obtain ⟨k, l, tw, tt, hnn, hk, fk, hlw, hlt, hIk⟩ := hI
  by_cases hkl : k < ns.length
  · have hx : (ivs l0)[k]? = some ((ivs l0)[k]'(hlen0 ▸ hkl)) := List.getElem?_eq_getElem _
    obtain ⟨nk, tv, hnk, ev, hgd, _⟩ := ivs_nat hl0 hx
    rw [ev] at hx
    clear ev hgd
    have hnk1 : nk ≤ 1000 := hm nk (List.mem_of_getElem? hnk)
    refine wpAny_pyNext_list_item hIk (lift s' fk.go) (x := .int nk tv) (by rw [List.getElem?_toArray]; exact hx) fun h₅ hI₅ sb₅ => g.some _ _ ?_
    have f₅ := fk.oth (tk := s'.toks) zI (stepOf sb₅)
    refine wpAny_assign_Name (fSto f₅ e fun s₆ f₆ st₆ => ?_)
    have hI₆ : s₆.heap.IsListIter I D (k + 1) := hI₅.at fun o q => st₆.keep _ _ (by first | exact one1 (zI.ne) | simpa using zI.ne) q
    -- for k in range(1, number + 1)
    refine wpAny_execs_cons (wpAny_For (gen fun Y1 Z1 g1 => rCall (rBui e f₆.gx.g (v := .type "range") (by kernel_rfl) (rArgs (P := fun _ => True) (fun h q => ⟨.machine, .inr (.inl rfl), .of_pure rfl⟩) (wpAny_items_cons (wpAny_Constant_int (wpAny_items_cons (wpAny_BinOp (rLcl e f₆.tk.ns (v := .int nk tv) lk_here (wpAny_Constant_int (wpAny_add_int (wpAny_items_nil ⟨trivial, call_range_2 ?_⟩))))))))))))
    have stR := Step.push s₆.heap { cls := .type "range", data := .fields #[.int 1 s₆.toks, .int ((nk : Int) + 1) (s₆.toks + 1 + 1), .int 1 (s₆.toks + 1 + 1 + 1)] }
    have f₇ := f₆.ext (tk := s₆.toks + 1 + 1 + 1 + 1) stR
    have hsz : Builtin.Range.rangeSize 1 ((nk : Int) + 1) 1 = (nk : Int) := by
      rw [rangeSize_one]
      split <;> omega
    refine g1 _ _ ?_
    refine wpAny_pyIter_range (IsRange.new ..) (small_one (by omega) (by omega) (by omega) (by omega)) ?_
    rw [hsz]
    have hI₇ := hI₆.at fun o q => stR.keep _ _ nil1 q
    dsimp only at f₇ ⊢
    generalize s₆.heap.push { cls := .type "range", data := .fields #[.int 1 s₆.toks, .int ((nk : Int) + 1) (s₆.toks + 1 + 1), .int 1 (s₆.toks + 1 + 1 + 1)] } = H₇ at hI₇ f₇ ⊢
    have zJ := f₇.fz
    have stJ := Step.push H₇ { cls := .type "range_iterator", data := .fields #[rawInt 1, rawInt nk, rawInt 1] }
    have f₈ := f₇.ext (tk := s₆.toks + 1 + 1 + 1 + 1) stJ
    have eJ := Heap.get?_push_size H₇ (o := { cls := .type "range_iterator", data := .fields #[rawInt 1, rawInt nk, rawInt 1] }) rfl
    have hI₈ := hI₇.at fun o q => stJ.keep _ _ nil1 q
    have hIJ : I ≠ H₇.objs.size := by
      obtain ⟨o, q, _⟩ := hI₇
      exact Nat.ne_of_lt (Heap.lt_size q)
    dsimp only at zJ f₈ ⊢
    generalize H₇.push { cls := .type "range_iterator", data := .fields #[rawInt 1, rawInt nk, rawInt 1] } = H₈ at f₈ eJ hI₈ ⊢
    generalize H₇.objs.size = J at zJ eJ hIJ ⊢
    have hth := wNum_few hnk hs
    generalize hst : (ns.take k).foldl wNum (1, 0) = st at hlw hlt hth
    refine forT (fun n s' => ∃ j l tw tt, n = nk - j ∧ WB w s L D I J nk (k + 1) j ((List.range' 1 j).foldl wIn st) l tw tt s') (fun n s' E₂ Tn₂ Tm₂ hI g2 => ?_) nk
      ⟨0, _, tw, tt, rfl, Nat.zero_le _, f₈, lk_skip hlw, lk_skip hlt, hI₈, by simpa using eJ⟩
    clear eJ f₈ f₇ hI₈ hI₇ hlw hlt
    obtain ⟨j, l', tw', tt', hnj, hj, fj, hlw', hlt', hIj, hRj⟩ := hI
    by_cases hjl : j < nk
    · generalize hsj : (List.range' 1 j).foldl wIn st = sj at hlw' hlt'
      have hsj2 : sj.2 = st.2 + j := by rw [← hsj, wIn_thing]; simp
      refine wpAny_pyNext_range_item hRj (by omega) fun h₉ hR₉ sb₉ => g2.some _ _ ?_
      have f₉ := fj.oth (tk := s'.toks + 1) zJ (stepOf sb₉)
      have hI₉ : h₉.IsListIter I D (k + 1) := hIj.at fun o q => sb₉.extBut _ _ hIJ q
      refine wpAny_assign_Name (fSto f₉ e fun sA fA stA => ?_)
      refine wpAny_execs_cons (wpAny_AugAssign_Name (wpAny_loadName_local e.kind ((e.kinds _).trans (by kernel_rfl)) (e.loc ▸ fA.ns) (lk_skip hlt') (wpAny_Constant_int (PyProof.Rows.iadd_int (fSto fA.tk e fun sB fB stB => ?_)))))
      refine wpAny_execs_cons (gen fun Y2 Z2 g3 => wpAny_Assign_Name (wpAny_BinOp (wpAny_BinOp (rLcl e fB.ns (lk_skip (lk_skip hlw')) (rLcl e fB.ns lk_here (mul_int ?_ (IntMulOk.of_right (intBits_le_64 (by omega) (by omega)))))))))
      refine rLcl e fB.tk.ns (lk_skip lk_here) (floordiv_int (by omega) ?_ (.inl (PyProof.noPylong_small (by omega))))
      rw [wIn_div]
      refine fSto fB.tk e fun sC fC stC => g3 _ _ (wpAny_execs_nil (g2.next _ _ (hnj ▸ Nat.sub_lt_sub_left hjl (Nat.lt_succ_self j)) ?_))
      have erange := wIn_next hsj
      have stAC : Step [L] h₉ sC.heap := stA.thn (stB.thn stC (by first | exact nilT | exact nil1 | k_mem | simp)) (by first | exact nilT | exact nil1 | k_mem | simp)
      refine ⟨j + 1, _, sB.toks + 1, sA.toks + 1, rfl, hjl, fC, ?_, ?_, hI₉.at fun o q => stAC.keep _ _ (by first | exact one1 (zI.ne) | simpa using zI.ne) q, ?_⟩
      · rw [erange]; exact lk_here
      · rw [erange]
        rw [← wIn_two]
        exact lk_skip lk_here
      · have := stAC.keep _ _ (by first | exact one1 (zJ.ne) | simpa using zJ.ne) hR₉
        rw [show (1 + ((j + 1 : Nat) : Int)) = 1 + (j : Int) + 1 by simp; omega, show ((nk : Int) - ((j + 1 : Nat) : Int)) = (nk : Int) - (j : Int) - 1 by simp; omega]
        exact this
    · have ej : j = nk := Nat.le_antisymm hj (Nat.not_lt.mp hjl)
      rw [ej] at hlw' hlt'
      refine wpAny_pyNext_range_end hh hRj (by omega) fun h₉ ex₉ => g2.none _ (wpAny_execs_nil (wpAny_execs_nil (g.next _ _ (hnn ▸ Nat.sub_lt_sub_left hkl (Nat.lt_succ_self k)) ?_)))
      have estep := wNum_next hnk hst
      exact ⟨k + 1, _, _, _, rfl, hkl, fj.oth (tk := s'.toks) zJ (stepExt ex₉), by rw [estep]; exact hlw', by rw [estep]; exact hlt', hIj.at fun o q => ex₉ _ _ hIJ q⟩
  · have ek : k = ns.length := Nat.le_antisymm hk (Nat.not_lt.mp hkl)
    rw [ek, List.take_length] at hlw
    refine wpAny_pyNext_list_end hh hIk (lift s' fk.go) (by rw [ek, List.getElem?_toArray]; exact List.getElem?_eq_none (Nat.le_of_eq hlen0)) fun h₅ ex₅ => g.none _ (wpAny_execs_nil ?_)
    have f₅ := fk.oth (tk := s'.toks) zI (stepExt ex₅)
    exact wpAny_execs_cons (wpAny_Return_some (rLcl e f₅.ns hlw (hT₀ _ _ (ret _ _ f₅.go f₅.gx))))
end
end Mine.Internal
end

section
open PySem PySem.W PyProof.Rows PySem.Calls Builtin Builtin.Str
set_option maxRecDepth 100000
set_option maxHeartbeats 4000000
set_option linter.unusedVariables false
namespace Mine.Internal

theorem of_if_tt {a b : Prop} (h : if true = true then a else b) : a := by simpa using h
noncomputable def Kp (n : Nat) (s s' : Shared) : Prop := ∀ b, (b = n ∨ b = n + 1 ∨ b = n + 2) → ∀ o, s.heap.get? b = some o → s'.heap.get? b = some o

structure Cmp (w : World) (A : Around) (env : Env) (scope : Scope) (cl : List (Str × Addr)) (x : Str) (ifs : List Expr) (elt : Expr) (D : Addr) (items : List Value) (s₁ : Shared) (J : Nat → List Value → Shared → Prop) : Prop where
  lst : s₁.heap.IsList D items.toArray
  few : items.length ≤ 10000
  start : ∀ h' tk, Step [] s₁.heap h' → J 0 [] { s₁ with heap := h', toks := tk }
  stab : ∀ k ys s b h' tk, J k ys s → (b = s₁.heap.objs.size ∨ b = s₁.heap.objs.size + 1 ∨ b = s₁.heap.objs.size + 2) → Step [b] s.heap h' → J k ys { s with heap := h', toks := tk }
  list : ∀ k ys s, J k ys s → s.heap.IsList D items.toArray
  turn : ∀ k ys v s m (E' : Value → Shared → Prop), J k ys s → items[k]? = some v → (∀ b, (b = s₁.heap.objs.size ∨ b = s₁.heap.objs.size + 1 ∨ b = s₁.heap.objs.size + 2) → ∃ o, s.heap.get? b = some o) → s.heap.Ns (s₁.heap.objs.size + 2) m → m x = some v →
    wpAny (model Pg w) A (forIn ifs true fun c r => if r = true then do let ok ← isTrue c (compEnvC scope cl (s₁.heap.objs.size + 2) env) (eval c (compEnvC scope cl (s₁.heap.objs.size + 2) env)); pure (ForInStep.yield ok) else pure (ForInStep.yield r))
      (fun ok s' => if ok = true then wpAny (model Pg w) A (eval elt (compEnvC scope cl (s₁.heap.objs.size + 2) env)) (fun y s'' => J (k + 1) (ys ++ [y]) s'' ∧ Kp s₁.heap.objs.size s s'') E' s' else J (k + 1) ys s' ∧ Kp s₁.heap.objs.size s s') E' s

theorem compT {w : World} {A : Around} {R : Result → Shared → Prop} {s : Shared} {LC elt target iter : Expr} {ifs : List Expr} {scope : Scope} {pos : Pos} {it acc : Value} {env : Env} (hLC : LC = .ListComp elt [⟨target, iter, ifs, 0⟩] scope pos) (I : Nat → Shared → Prop)
    (turn : ∀ n s (E1 : Value → Shared → Prop) (Tn : Option Value → Shared → Prop) (Tm : Shared → Prop), I n s → (∀ m s', m < n → I m s' → Tm s') → (∀ s₁, R (.ok .next) s₁ → Tn none s₁) →
      (∀ v s₁, wpAny (model Pg w) A (assign target env v) (fun _ s₂ =>
          wpAny (model Pg w) A (forIn ifs true fun c r => if r = true then do let ok ← isTrue c env (eval c env); pure (ForInStep.yield ok) else pure (ForInStep.yield r)) (fun ok s₃ =>
            if ok = true then wpAny (model Pg w) A (eval elt env) (fun x s₄ =>
              wpAny (model Pg w) A (call (.builtin "list.append") [acc, x]) (fun _ s₅ => Tm s₅) E1 s₄) E1 s₃
            else Tm s₃) E1 s₂) E1 s₁ → Tn (some v) s₁) → wpAny (model Pg w) A (pyNext it) Tn E1 s)
    (n : Nat) (h : I n s) (ht : ∀ v, letOwnedTupleGo target it v = pure () := by intro _; rfl) :
    codeAny (model Pg w) A (.compLoop LC 0 it acc env) R s := by
  subst hLC
  exact codeAny_compLoop_tests I (fun n s hI => turn n s _ _ (fun s₅ => ∃ m, m < n ∧ I m s₅) hI (fun m _ hm hi => ⟨m, hm, hi⟩) (fun _ h => h) (fun _ _ h => h)) n h ht

structure JS (J : Nat → List Value → Shared → Prop) (N D : Addr) (k : Nat) (ys : List Value) (m : Str → Option Value) (s' : Shared) : Prop where
  j : J k ys s'
  i : s'.heap.IsListIter N D k
  a : s'.heap.PlainList (N + 1) ys.toArray
  n : s'.heap.Ns (N + 2) m
  few : ys.length ≤ k

theorem loopS {w : World} {A : Around} {ce : Env} {LC elt iter : Expr} {x : Str} {px pos : Pos} {ifs : List Expr} {scope : Scope} {N D : Addr} {items : List Value} {J : Nat → List Value → Shared → Prop} {R : Result → Shared → Prop} {s : Shared} {m : Str → Option Value}
    (hLC : LC = .ListComp elt [⟨.Name x px, iter, ifs, 0⟩] scope pos) (hh : A.handled = none) (kindx : ce.kindOf x = some .local) (hloc : ce.locals = N + 2)
    (kindp : (ce.scope.kind == .class || (ce.scope.kind == .module && ce.locals != ce.globals)) = false) (few : items.length ≤ 10000)
    (cst : ∀ k ys s b h' tk, J k ys s → (b = N ∨ b = N + 1 ∨ b = N + 2) → Step [b] s.heap h' → J k ys { s with heap := h', toks := tk }) (list : ∀ k ys s, J k ys s → s.heap.IsList D items.toArray)
    (ctn : ∀ k ys v s m (E' : Value → Shared → Prop), J k ys s → items[k]? = some v → (∀ b, (b = N ∨ b = N + 1 ∨ b = N + 2) → ∃ o, s.heap.get? b = some o) → s.heap.Ns (N + 2) m → m x = some v →
      wpAny (model Pg w) A (forIn ifs true fun c r => if r = true then do let ok ← isTrue c ce (eval c ce); pure (ForInStep.yield ok) else pure (ForInStep.yield r))
        (fun ok s' => if ok = true then wpAny (model Pg w) A (eval elt ce) (fun y s'' => J (k + 1) (ys ++ [y]) s'' ∧ Kp N s s'') E' s' else J (k + 1) ys s' ∧ Kp N s s') E' s)
    (fin : ∀ ys s' m', J items.length ys s' → s'.heap.PlainList (N + 1) ys.toArray → s'.heap.Ns (N + 2) m' → R (.ok .next) s') (st : JS J N D 0 [] m s) :
    codeAny (model Pg w) A (.compLoop LC 0 (.ref N) (.ref (N + 1)) ce) R s := by
  have n01 : N ≠ N + 1 := Nat.ne_of_lt (Nat.lt_succ_self _)
  have n02 : N ≠ N + 2 := Nat.ne_of_lt (Nat.lt_succ_of_lt (Nat.lt_succ_self _))
  have n12 : N + 1 ≠ N + 2 := Nat.ne_of_lt (Nat.lt_succ_self _)
  refine compT hLC (fun n s' => ∃ k ys m, n = items.length - k ∧ k ≤ items.length ∧ JS J N D k ys m s') (fun n s' E1 Tn Tm hI gm g0 gs => ?_) items.length ⟨0, [], m, rfl, Nat.zero_le _, st⟩
  obtain ⟨k, ys, m, rfl, hk, jk, ik, ak, nk, hyk⟩ := hI
  by_cases hkl : k < items.length
  · have hv : items.toArray[k]? = some (items[k]'hkl) := by simp [hkl]
    have hv' : items[k]? = some (items[k]'hkl) := List.getElem?_eq_getElem hkl
    have hdec := Nat.sub_lt_sub_left hkl (Nat.lt_succ_self k)
    refine wpAny_pyNext_list_item ik (list _ _ _ jk) hv fun h₂ i₂ sb₂ => gs _ _ ?_
    clear hv
    generalize (items[k]'hkl) = v at hv' ⊢
    have j₂ := cst k ys s' N h₂ s'.toks jk (.inl rfl) (stepOf sb₂)
    have a₂ : h₂.PlainList (N + 1) ys.toArray := ak.at fun o q => sb₂.extBut _ _ (Ne.symm n01) q
    have n₂ : h₂.Ns (N + 2) m := ns_step nk (stepOf sb₂) (one1 (Ne.symm n02))
    refine wpAny_assign_Name (wpAny_storeName_local kindx (hloc.symm ▸ n₂) (fun h₃ n₃ sb₃ => ?_) kindp)
    rw [hloc] at n₃ sb₃
    have j₃ := cst k ys _ (N + 2) h₃ (s'.toks + 1) j₂ (.inr (.inr rfl)) (stepOf sb₃)
    have a₃ : h₃.PlainList (N + 1) ys.toArray := a₂.at fun o q => (stepOf sb₃).keep _ _ (one1 n12) q
    have i₃ : h₃.IsListIter N D (k + 1) := i₂.at fun o q => (stepOf sb₃).keep _ _ (one1 n02) q
    have alive : ∀ b, (b = N ∨ b = N + 1 ∨ b = N + 2) → ∃ o, h₃.get? b = some o := by
      rintro b (rfl | rfl | rfl)
      · obtain ⟨o, q, _⟩ := i₃; exact ⟨o, q⟩
      · obtain ⟨n, q⟩ := a₃; exact ⟨_, q⟩
      · obtain ⟨o, _, _, q, _⟩ := n₃; exact ⟨o, q⟩
    refine wpAny_mono (ctn k ys v _ _ _ j₃ hv' alive n₃ (if_pos rfl)) (fun ok s₄ h₄ => ?_) fun _ _ z => z
    cases ok with
    | false =>
      obtain ⟨j₄, kp⟩ : J (k + 1) ys s₄ ∧ Kp N _ s₄ := by simpa using h₄
      obtain ⟨o, es, ep, q, r⟩ := n₃
      exact if_ff (gm _ _ hdec ⟨k + 1, ys, _, rfl, hkl, j₄, i₃.at fun o q => kp N (.inl rfl) o q, a₃.at fun o q => kp _ (.inr (.inl rfl)) o q, ⟨o, es, ep, kp _ (.inr (.inr rfl)) o q, r⟩, Nat.le_succ_of_le hyk⟩)
    | true =>
      refine if_tt (wpAny_mono (of_if_tt h₄) (fun y s₅ h₅ => ?_) fun _ _ z => z)
      obtain ⟨j₅, kp⟩ := h₅
      have a₅ : s₅.heap.PlainList (N + 1) ys.toArray := a₃.at fun o q => kp _ (.inr (.inl rfl)) o q
      refine wpAny_list_append_plain a₅ (fun h₆ a₆ sb₆ => ?_) (by simp [sizeLine]; omega)
      obtain ⟨o, es, ep, q, r⟩ := n₃
      refine gm _ _ hdec ⟨k + 1, ys ++ [y], _, rfl, hkl, cst _ _ _ (N + 1) h₆ s₅.toks j₅ (.inr (.inl rfl)) (stepOf sb₆), i₃.at fun o q => (stepOf sb₆).keep _ _ (one1 n01) (kp N (.inl rfl) o q), ?_, ⟨o, es, ep, (stepOf sb₆).keep _ _ (one1 (Ne.symm n12)) (kp _ (.inr (.inr rfl)) o q), r⟩, by rw [List.length_append]; exact Nat.succ_le_succ hyk⟩
      have e : ys.toArray.push y = (ys ++ [y]).toArray := by simp
      rw [← e]; exact a₆
  · have ek : k = items.length := Nat.le_antisymm hk (Nat.not_lt.mp hkl)
    subst ek
    refine wpAny_pyNext_list_end hh ik (list _ _ _ jk) (by simp) fun h₂ ex₂ => g0 _ (fin ys _ m (cst _ _ s' N h₂ s'.toks jk (.inl rfl) (stepExt ex₂)) (ak.at fun o q => ex₂ _ _ (Ne.symm n01) q) (ns_step nk (stepExt ex₂) (one1 (Ne.symm n02))))

theorem compS {w : World} {A : Around} {E : Value → Shared → Prop} {s₁ : Shared} {env : Env} {elt iter : Expr} {x : Str} {px pos : Pos} {ifs : List Expr} {scope : Scope} {cl : List (Str × Addr)} {D : Addr} {items : List Value} {J : Nat → List Value → Shared → Prop} {RR : Value → Addr → Result → Shared → Prop}
    (hh : A.handled = none) (hcell : ∀ y ∈ scope.names, y.2 ≠ .cell) (hkind : scope.kind = .function) (hx : scope.names.lookup x = some .local) (c : Cmp w A env scope cl x ifs elt D items s₁ J)
    (hRR : ∀ ys s' m', J items.length ys s' → s'.heap.PlainList (s₁.heap.objs.size + 1) ys.toArray → s'.heap.Ns (s₁.heap.objs.size + 2) m' → RR (.ref (s₁.heap.objs.size + 1)) (s₁.heap.objs.size + 2) (.ok .next) s') :
    wpAny (model Pg w) A (pyIter (.ref D)) (fun it s₂ => wpAny (model Pg w) A (newList []) (fun acc s₃ => wpAny (model Pg w) A (newFunctionEnv scope env.globals cl [] env.qual none .none (some env)) (fun cenv s₄ =>
      codeAny (model Pg w) A (.compStart (.ListComp elt [⟨.Name x px, iter, ifs, 0⟩] scope pos) 0 it acc { cenv with scope := relabel scope env }) (RR acc cenv.locals) s₄) E s₃) E s₂) E s₁ := by
  refine wpAny_pyIter_list c.lst ?_
  refine wpAny_newObj_type (wpAny_newFunctionEnv hcell (by intro y hy; simp at hy) (fun h₁ hns₁ hsb₁ => ?_) hkind)
  dsimp only at hns₁ hsb₁ ⊢
  simp only [Heap.size_push] at hns₁ hsb₁ ⊢
  generalize hH : s₁.heap.objs.size = N at *
  have n02 : N ≠ N + 1 + 1 := Nat.ne_of_lt (by omega)
  have n12 : N + 1 ≠ N + 1 + 1 := Nat.ne_of_lt (by omega)
  have n01 : N ≠ N + 1 := Nat.ne_of_lt (by omega)
  have e0 : h₁.get? N = some { cls := .type "list_iterator", data := .fields #[.ref D, .int 0 0] } := by
    refine hsb₁.extBut _ _ n02 (Heap.get?_push_of_some _ (Heap.get?_push_of_some _ ?_))
    rw [← hH]; exact Heap.get?_push_size _ rfl
  have e1 : h₁.PlainList (N + 1) #[] := ⟨0, by
    refine hsb₁.extBut _ _ n12 (Heap.get?_push_of_some _ ?_)
    have := Heap.get?_push_size (s₁.heap.push { cls := .type "list_iterator", data := .fields #[.ref D, .int 0 0] }) (o := { cls := .type "list", data := .seq ([] : List Value).toArray }) rfl
    rwa [Heap.size_push, hH] at this⟩
  have st : Step [] s₁.heap h₁ := ⟨fun b o _ q => hsb₁.extBut b o (by have := Heap.lt_size q; rw [hH] at this; exact Nat.ne_of_lt (Nat.lt_of_lt_of_le this (by omega))) (Heap.get?_push_of_some _ (Heap.get?_push_of_some _ (Heap.get?_push_of_some _ q)))⟩
  have kindx : Env.kindOf (compEnvC scope cl (N + 2) env) x = some .local := lookup_relabel_local hx
  have kindp : ((compEnvC scope cl (N + 2) env).scope.kind == .class || ((compEnvC scope cl (N + 2) env).scope.kind == .module && (compEnvC scope cl (N + 2) env).locals != (compEnvC scope cl (N + 2) env).globals)) = false := by
    show (scope.kind == .class || (scope.kind == .module && _)) = false
    rw [hkind]; rfl
  have cst := c.stab
  have ctn := c.turn
  rw [hH] at cst ctn
  have loop := loopS (iter := iter) (px := px) (pos := pos) (scope := scope) rfl hh kindx (show (compEnvC scope cl (N + 2) env).locals = N + 2 from rfl) kindp c.few cst c.list ctn hRR
    (s := { s₁ with heap := h₁, toks := s₁.toks + ([] : List (Str × Value)).length }) ⟨c.start h₁ _ st, ⟨_, e0, rfl, rfl⟩, e1, hns₁, Nat.le_refl _⟩
  exact codeAny_compStart_list loop (wpAny_pyIter_listiter (s := { s₁ with heap := h₁, toks := s₁.toks + ([] : List (Str × Value)).length }) ⟨_, e0, rfl, rfl⟩ loop)
end Mine.Internal
end

section
open PySem PySem.W PyProof.Rows PySem.Calls Builtin Builtin.Str
set_option maxRecDepth 100000
set_option maxHeartbeats 4000000
set_option linter.unusedVariables false
namespace Mine.Internal

theorem compE {w : World} {A : Around} {E : Value → Shared → Prop} {s : Shared} {env : Env} {elt iter : Expr} {x : Str} {px pos : Pos} {ifs : List Expr} {scope : Scope} {cl : List (Str × Addr)} {Q : Value → Shared → Prop}
    (hh : A.handled = none) (hclos : closureFor scope env = pure cl) (hcell : ∀ y ∈ scope.names, y.2 ≠ .cell) (hkind : scope.kind = .function) (hnames : ∀ y ∈ scope.names, y.2 = .local → scope.names.lookup y.1 = some .local) (hx : scope.names.lookup x = some .local)
    (h : wpAny (model Pg w) A (eval iter env) (fun v s₁ => ∃ (D : Addr) (items : List Value) (J : Nat → List Value → Shared → Prop), v = .ref D ∧ Cmp w A env scope cl x ifs elt D items s₁ J ∧
      (∀ ys s', J items.length ys s' → s'.heap.PlainList (s₁.heap.objs.size + 1) ys.toArray → Q (.ref (s₁.heap.objs.size + 1)) s')) E s)
    (hs : ∀ x, foldedSetIterable iter env x = pure x := by intro _; rfl) :
    wpAny (model Pg w) A (eval (.ListComp elt [⟨.Name x px, iter, ifs, 0⟩] scope pos) env) Q E s := by
  rw [eval_ListComp]
  refine wpAny_comprehension_free (use := none) rfl hs hclos hkind hnames (wpAny_mono h (fun v s₁ h₁ => ?_) fun _ _ e => e)
  obtain ⟨D, items, J, rfl, c, fin⟩ := h₁
  refine compS (RR := fun acc C => compPost (model Pg w) A E none Q acc C) hh hcell hkind hx c fun ys s' m' j pl n => ⟨m', n, fun h' sb => ?_⟩
  exact fin ys _ (c.stab _ _ s' _ h' s'.toks j (.inr (.inr rfl)) (stepOf sb)) (pl.at fun o q => sb.extBut _ _ (Nat.ne_of_lt (by omega)) q)

structure CA (w : World) (A : Around) (s₀ : Shared) (L : Addr) (l : List (Str × Value)) (env : Env) (scope : Scope) (cl : List (Str × Addr)) (x y : Str) (ifs : List Expr) (elt : Expr) (D : Addr) (items : List Value) (K : Nat → List Value → Shared → Prop) (s₁ : Shared) (Q : Flow → Shared → Prop) : Prop where
  f : Fn w s₀ L l s₁
  c : Cmp w A env scope cl x ifs elt D items s₁ (fun k ys s' => Fn w s₀ L l s' ∧ K k ys s')
  kL : ∀ k ys s' h' tk, K k ys s' → Step [L] s'.heap h' → K k ys { s' with heap := h', toks := tk }
  kC : ∀ k ys s' h' tk, K k ys s' → Step [s₁.heap.objs.size + 2] s'.heap h' → K k ys { s' with heap := h', toks := tk }
  fin : ∀ ys s', Fn w s₀ L ((y, .ref (s₁.heap.objs.size + 1)) :: l) s' → K items.length ys s' → s'.heap.PlainList (s₁.heap.objs.size + 1) ys.toArray → Q .next s'

theorem compA {w : World} {A : Around} {E : Value → Shared → Prop} {s₀ s : Shared} {L : Addr} {l : List (Str × Value)} {ks : List (Str × NameKind)} {env : Env} {elt iter : Expr} {x y : Str} {px py pos spos : Pos} {ifs : List Expr} {scope : Scope} {cl : List (Str × Addr)} {Q : Flow → Shared → Prop}
    (e : En env L ks) (hh : A.handled = none) (hclos : closureFor scope env = pure cl) (hcell : ∀ y ∈ scope.names, y.2 ≠ .cell) (hkind : scope.kind = .function) (hnames : ∀ y ∈ scope.names, y.2 = .local → scope.names.lookup y.1 = some .local) (hx : scope.names.lookup x = some .local)
    (hsw : swapsWith (.ListComp elt [⟨.Name x px, iter, ifs, 0⟩] scope pos) (some (.Name y py)) spos.line env = pure true) (hl : ks.lookup y = some .local)
    (h : wpAny (model Pg w) A (eval iter env) (fun v s₁ => ∃ (D : Addr) (items : List Value) (K : Nat → List Value → Shared → Prop), v = .ref D ∧ CA w A s₀ L l env scope cl x y ifs elt D items K s₁ Q) E s)
    (hs : ∀ x, foldedSetIterable iter env x = pure x := by intro _; rfl) :
    wpAny (model Pg w) A (exec (.Assign [.Name y py] (.ListComp elt [⟨.Name x px, iter, ifs, 0⟩] scope pos) spos) env) Q E s := by
  rw [exec_Assign_Name_used _ _ _ _ hsw]
  refine wpAny_bind (wpAny_standAt (wpAny_bind ?_))
  show wpAny _ A (do let _ ← comprehension (.ListComp elt [⟨.Name x px, iter, ifs, 0⟩] scope pos) scope env _ (newList []) false (eval iter env) (some (assign (.Name y py) env))) _ _ s
  refine wpAny_bind (wpAny_mono (wpAny_comprehension_free (use := some (assign (.Name y py) env)) (Q := fun _ s' => Q .next s') rfl hs hclos hkind hnames
    (wpAny_mono h (fun v s₁ h₁ => ?_) fun _ _ e => e)) (fun _ s' hq => wpAny_pure (wpAny_pure hq)) fun _ _ e => e)
  obtain ⟨D, items, K, rfl, q⟩ := h₁
  have f₁ := q.f
  have hLC : L ≠ s₁.heap.objs.size + 2 := by
    obtain ⟨o, es, ep, q, _⟩ := f₁.ns
    exact Nat.ne_of_lt (Nat.lt_of_lt_of_le (Heap.lt_size q) (by omega))
  have hLA : L ≠ s₁.heap.objs.size + 1 := by
    obtain ⟨o, es, ep, q, _⟩ := f₁.ns
    exact Nat.ne_of_lt (Nat.lt_of_lt_of_le (Heap.lt_size q) (by omega))
  have zC : Fz s₀ L (s₁.heap.objs.size + 2) := by
    have f₂ := (f₁.ext (tk := s₁.toks) (Step.push s₁.heap (lstObj [] 0)))
    have f₃ := (f₂.ext (tk := s₁.toks) (Step.push _ (lstObj [] 0))).fz
    simpa [Heap.size_push] using f₃
  refine compS (RR := fun acc C => compPost (model Pg w) A E (some (assign (.Name y py) env)) (fun _ s' => Q .next s') acc C) hh hcell hkind hx q.c fun ys s' m' j pl n => ?_
  show wpAny _ A (assign (.Name y py) env (.ref (s₁.heap.objs.size + 1))) _ _ _
  refine wpAny_assign_Name (rStoS e j.1.ns (fun h₂ n₂ st₂ => ⟨m', ns_step n st₂ (by first | exact one1 (Ne.symm hLC) | simpa using Ne.symm hLC), fun h' sb => ?_⟩) hl)
  have f₂ := j.1.sto (tk := s'.toks + 1) n₂ st₂
  have f₃ := f₂.oth (tk := s'.toks + 1) zC (stepOf sb)
  refine q.fin ys _ f₃ (q.kC _ _ _ h' _ (q.kL _ _ s' h₂ (s'.toks + 1) j.2 st₂) (stepOf sb)) ?_
  exact (pl.at fun o q => st₂.keep _ _ (by first | exact one1 (Ne.symm hLA) | simpa using Ne.symm hLA) q).at fun o q => sb.extBut _ _ (Nat.ne_of_lt (by omega)) q
end Mine.Internal
end

section
open PySem PySem.W PyProof.Rows PySem.Calls Builtin Builtin.Str
set_option maxRecDepth 100000
set_option maxHeartbeats 4000000
set_option linter.unusedVariables false
namespace Mine.Internal
structure RJ (w : World) (s₀ : Shared) (L : Addr) (J : Nat → List (Str × Value) → Shared → Prop) (I : Addr) (a c : Int) (n k : Nat) (l' : List (Str × Value)) (s' : Shared) : Prop where
  hk : k ≤ n
  f : Fn w s₀ L l' s'
  j : J k l' s'
  ir : IsRangeIter s'.heap I (a + k * c) ((n : Int) - k) c

theorem rangeFor {w : World} {A : Around} {E : Value → Shared → Prop} {s₀ s : Shared} {L r : Addr} {l : List (Str × Value)} {env : Env} {x : Str} {px : Pos} {body : List Stmt} {a b c : Int} {t u v : Tok} {n : Nat} {R : Result → Shared → Prop}
    (J : Nat → List (Str × Value) → Shared → Prop) (hh : A.handled = none) (f : Fn w s₀ L l s) (hr : IsRange s.heap r a b c t u v) (hsm : Builtin.Range.small a b c = true) (hsz : Builtin.Range.rangeSize a b c = n)
    (h0 : ∀ h', Step [] s.heap h' → J 0 l { s with heap := h' })
    (stab : ∀ k l' s' h' tk, J k l' s' → Step [s.heap.objs.size] s'.heap h' → J k l' { s' with heap := h', toks := tk })
    (turn : ∀ k l' s' tk (T : Flow → Shared → Prop) (E' : Value → Shared → Prop), k < n → J k l' s' → Fn w s₀ L l' s' → Fz s₀ L s.heap.objs.size → (∃ o, s'.heap.get? s.heap.objs.size = some o) →
      (∀ l₃ s₃, Fn w s₀ L l₃ s₃ → J (k + 1) l₃ s₃ → (∀ o, s'.heap.get? s.heap.objs.size = some o → s₃.heap.get? s.heap.objs.size = some o) → T .next s₃) →
      wpAny (model Pg w) A (storeName env x (.int (a + k * c) tk)) (fun _ s₂ => wpAny (model Pg w) A (execs body env) T E' s₂) E' s')
    (fin : ∀ l' s', J n l' s' → Fn w s₀ L l' s' → R (.ok .next) s') :
    wpAny (model Pg w) A (pyIter (.ref r)) (fun it s₂ => codeAny (model Pg w) A (.forLoop (.Name x px) it body [] env) R s₂) E s := by
  refine wpAny_pyIter_range hr hsm ?_
  rw [hsz]
  have zI := f.fz
  have stI := Step.push s.heap { cls := .type "range_iterator", data := .fields #[rawInt a, rawInt n, rawInt c] }
  have f₁ := f.ext (tk := s.toks) stI
  have eI := Heap.get?_push_size s.heap (o := { cls := .type "range_iterator", data := .fields #[rawInt a, rawInt n, rawInt c] }) rfl
  refine forT (fun m s' => ∃ k l', m = n - k ∧ RJ w s₀ L J s.heap.objs.size a c n k l' s') (fun m s' E₁ Tn Tm hI g => ?_) n ⟨0, l, rfl, Nat.zero_le _, f₁, h0 _ stI, by simpa using eI⟩
  obtain ⟨k, l', rfl, hk, fk, jk, hR⟩ := hI
  by_cases hkn : k < n
  · refine wpAny_pyNext_range_item hR (by omega) fun h₂ hR₂ sb₂ => g.some _ _ ?_
    have f₂ := fk.oth (tk := s'.toks + 1) zI (stepOf sb₂)
    have j₂ := stab _ _ _ h₂ (s'.toks + 1) jk (stepOf sb₂)
    refine wpAny_assign_Name (turn k l' _ s'.toks Tm _ hkn j₂ f₂ zI ⟨_, hR₂⟩ (fun l₃ s₃ f₃ j₃ kp => g.next _ _ (Nat.sub_lt_sub_left hkn (Nat.lt_succ_self k)) ⟨k + 1, l₃, rfl, hkn, f₃, j₃, ?_⟩))
    have := kp _ hR₂
    rw [show (a + ((k + 1 : Nat) : Int) * c) = a + (k : Int) * c + c by rw [Int.natCast_add, Int.add_mul]; simp; omega, show ((n : Int) - ((k + 1 : Nat) : Int)) = (n : Int) - (k : Int) - 1 by simp; omega]
    exact this
  · have ek : k = n := Nat.le_antisymm hk (Nat.not_lt.mp hkn)
    subst ek
    refine wpAny_pyNext_range_end hh hR (by omega) fun h₂ ex₂ => g.none _ (wpAny_execs_nil ?_)
    exact fin l' _ (stab _ _ _ h₂ s'.toks jk (stepExt ex₂)) (fk.oth (tk := s'.toks) zI (stepExt ex₂))
end Mine.Internal
end

section
open PySem PySem.W PyProof.Rows PySem.Calls Builtin Builtin.Str
set_option maxRecDepth 100000
set_option maxHeartbeats 4000000
set_option linter.unusedVariables false
namespace Mine.Internal

theorem compEn {env : Env} {L C : Addr} {ks : List (Str × NameKind)} {scope : Scope} {cl : List (Str × Addr)} (e : En env L ks) (hk : scope.kind = .function) : En (compEnvC scope cl C env) C (relabel scope env).names := ⟨hk, rfl, fun _ => rfl, e.glob, e.bi⟩
noncomputable def wordsTo (m place : Nat) (ns : List Nat) (q : Nat) : List Str := (List.range q).filterMap fun k => if place ∈ placesOf (ns.getD k 0) then some (wd (97 + k) ((m + 1) * 2 ^ place - m)) else none
theorem mulOk_wd (c N : Nat) (h : N ≤ 64) : MulOk ⟨#[c]⟩ (N : Int) := by
  have hl : Str.length ⟨#[c]⟩ = 1 := rfl
  unfold MulOk
  refine ⟨?_, fun h1 _ => ?_, fun h1 _ => ?_⟩
  · have h1 : ¬ (N : Int) < -(2 ^ 63 : Int) := by omega
    have h2 : ¬ (N : Int) ≥ 2 ^ 63 := by omega
    rw [decide_eq_false h1, decide_eq_false h2]; rfl
  · rw [hl]
    intro h2
    have : (2 ^ 63 - 1 : Int) / (N : Int) ≥ 1 := by
      rw [ge_iff_le, Int.le_ediv_iff_mul_le (by omega)]
      omega
    omega
  · rw [hl]
    simp [tooLong, sizeLine]
    omega
theorem wordsTo_succ (m place : Nat) (ns : List Nat) (q : Nat) : wordsTo m place ns (q + 1) = wordsTo m place ns q ++ if place ∈ placesOf (ns.getD q 0) then [wd (97 + q) ((m + 1) * 2 ^ place - m)] else [] := by
  unfold wordsTo
  rw [List.range_succ, List.filterMap_append]
  congr 1
  by_cases h : place ∈ placesOf (ns.getD q 0)
  · rw [List.filterMap_cons, if_pos h, if_pos h]; rfl
  · rw [List.filterMap_cons, if_neg h, if_neg h]; rfl
theorem intsAre (l : List (Int × Tok)) : IntsAre (ivs l) (l.map (·.1)) := by
  induction l with
  | nil => exact .nil
  | cons p r ih => exact .cons _ _ ih
noncomputable def wordsAt (m place : Nat) (ns : List Nat) : List Str := (List.range ns.length).filterMap fun k => if place ∈ placesOf (ns.getD k 0) then some (wd (97 + k) ((m + 1) * 2 ^ place - m)) else none
noncomputable def wordsOf (m : Nat) (ns : List Nat) : List Str := [4, 3, 2, 1, 0].flatMap fun place => wordsAt m place ns

theorem wordsTo_len (m place : Nat) (ns : List Nat) (q : Nat) : (wordsTo m place ns q).length ≤ q := by
  have := List.length_filterMap_le (fun k => if place ∈ placesOf (ns.getD k 0) then some (wd (97 + k) ((m + 1) * 2 ^ place - m)) else none) (List.range q)
  rw [List.length_range] at this
  exact this
theorem wordsAll_len (m : Nat) (ns : List Nat) (hn : ns.length ≤ 5) (ps : List Nat) : (ps.flatMap fun place => wordsAt m place ns).length ≤ 5 * ps.length := by
  induction ps with
  | nil => simp
  | cons p r ih =>
    have := wordsTo_len m p ns ns.length
    rw [List.flatMap_cons, List.length_append, List.length_cons]
    have e : wordsAt m p ns = wordsTo m p ns ns.length := rfl
    rw [e]
    omega
noncomputable def Kept (s₀ : Shared) (L N : Addr) (ns : List Nat) (k : Nat) (ys : List Value) (s : Shared) : Prop :=
  ∃ as : List Addr, ys = as.map Value.ref ∧ as.length = k ∧ ∀ j a, as[j]? = some a → LI s.heap a ((placesOf (ns.getD j 0)).map Int.ofNat) ∧ Fz s₀ L a ∧ a ≠ N ∧ a ≠ N + 1 ∧ a ≠ N + 2
theorem Kept.step {s₀ s : Shared} {L N : Addr} {ns : List Nat} {k : Nat} {ys : List Value} {h' : Heap} {tk : Nat} {b : Addr} (K : Kept s₀ L N ns k ys s) (st : Step [b] s.heap h') (hb : b = L ∨ b = N ∨ b = N + 1 ∨ b = N + 2) : Kept s₀ L N ns k ys { s with heap := h', toks := tk } := by
  obtain ⟨as, h1, h2, h3⟩ := K
  refine ⟨as, h1, h2, fun j a ha => ?_⟩
  obtain ⟨q1, q2, q3, q4, q5⟩ := h3 j a ha
  refine ⟨li_step q1 st ?_, q2, q3, q4, q5⟩
  simp only [List.mem_singleton]
  rintro rfl
  rcases hb with z | z | z | z
  · exact q2.ne z
  · exact q3 z
  · exact q4 z
  · exact q5 z

theorem Kept.snoc {s₀ s s' : Shared} {L N P : Addr} {ns : List Nat} {k : Nat} {ys : List Value} (K : Kept s₀ L N ns k ys s) (st : Step tabs s.heap s'.heap) (li : LI s'.heap P ((placesOf (ns.getD k 0)).map Int.ofNat)) (z : Fz s₀ L P) (h0 : P ≠ N) (h1 : P ≠ N + 1) (h2 : P ≠ N + 2) : Kept s₀ L N ns (k + 1) (ys ++ [.ref P]) s' := by
  obtain ⟨as, e1, e2, e3⟩ := K
  refine ⟨as ++ [P], by rw [e1, List.map_append]; rfl, by rw [List.length_append, e2]; rfl, fun j a ha => ?_⟩
  by_cases hj : j < as.length
  · rw [List.getElem?_append_left hj] at ha
    obtain ⟨q1, q2, q3⟩ := e3 j a ha
    exact ⟨li_step q1 st (nin2 (ne240 q2.hi (by decide)) (ne240 q2.hi (by decide))), q2, q3⟩
  · have hj' : j = k := by
      have := (List.getElem?_eq_some_iff.mp ha).1
      rw [List.length_append, List.length_singleton] at this
      omega
    rw [hj', ← e2, List.getElem?_concat_length] at ha
    rw [← Option.some.inj ha, hj']
    exact ⟨li, z, h0, h1, h2⟩
theorem any_place {lq : List (Int × Tok)} {xs : List Nat} {pl : Nat} (h : lq.map (·.1) = xs.map Int.ofNat) : (lq.map (·.1)).any (· == (pl : Int)) = decide (pl ∈ xs) := by
  rw [h, Bool.eq_iff_iff, List.any_eq_true, decide_eq_true_eq]
  constructor
  · rintro ⟨x, hx, hxp⟩
    obtain ⟨y, hy, rfl⟩ := List.mem_map.mp hx
    have h5 : (Int.ofNat y) = (pl : Int) := by simpa using hxp
    exact Int.ofNat.inj h5 ▸ hy
  · intro h
    exact ⟨_, List.mem_map_of_mem h, by simp⟩
noncomputable def wordsP (m : Nat) (ns : List Nat) (p : Nat) : List Str := ([4, 3, 2, 1, 0].take p).flatMap fun place => wordsAt m place ns
theorem wordsP_succ {m : Nat} {ns : List Nat} {p pl : Nat} (h : pl = 4 - p) (hp : p < 5) : wordsP m ns p ++ wordsTo m pl ns ns.length = wordsP m ns (p + 1) := by
  have hg : ([4, 3, 2, 1, 0] : List Nat)[p]? = some pl := by
    rw [h]
    exact (by decide : ∀ p, p < 5 → ([4, 3, 2, 1, 0] : List Nat)[p]? = some (4 - p)) p hp
  unfold wordsP
  rw [List.take_add_one, hg, List.flatMap_append]
  simp [wordsAt, wordsTo]
theorem wordsP_len (m : Nat) (ns : List Nat) (hn : ns.length ≤ 5) (p : Nat) : (wordsP m ns p).length ≤ 25 :=
  Nat.le_trans (wordsAll_len m ns hn ([4, 3, 2, 1, 0].take p)) (Nat.mul_le_mul_left 5 (show ([4, 3, 2, 1, 0].take p).length ≤ 5 by rw [List.length_take]; exact Nat.min_le_right _ _))
theorem get_let {q : Nat} (hq : q < 5) : ((seqIndex? (q : Int) (⟨⟨[97, 98, 99, 100, 101]⟩⟩ : Str).length).bind fun x => (⟨⟨[97, 98, 99, 100, 101]⟩⟩ : Str).cps[x]?) = some (97 + q) :=
  (by decide +kernel : ∀ q : Nat, q < 5 → ((seqIndex? (q : Int) (⟨⟨[97, 98, 99, 100, 101]⟩⟩ : Str).length).bind fun x => (⟨⟨[97, 98, 99, 100, 101]⟩⟩ : Str).cps[x]?) = some (97 + q)) q hq
theorem nat_in {q : Nat} (hq : q < 2 ^ 62) : (decide ((q : Int) < -(2 ^ 63 : Int)) || decide ((q : Int) ≥ 2 ^ 63)) = false := by
  have h1 : ¬ (q : Int) < -(2 ^ 63 : Int) := by omega
  have h2 : ¬ (q : Int) ≥ 2 ^ 63 := by omega
  rw [decide_eq_false h1, decide_eq_false h2]; rfl
theorem two_le {pl : Nat} (h : pl ≤ 4) : 2 ^ pl ≤ 16 := Nat.pow_le_pow_right (by decide) h
theorem wid_b {m pl : Nat} (hm : m ≤ 3) (h : pl ≤ 4) : (m + 1) * 2 ^ pl - m ≤ 64 := Nat.le_trans (Nat.sub_le _ _) (Nat.le_trans (Nat.mul_le_mul (by omega : m + 1 ≤ 4) (two_le h)) (by decide))
theorem wid_e {m pl : Nat} : (((m : Int) + 1) * ((2 : Int) ^ (pl : Int).toNat) - (m : Int)) = (((m + 1) * 2 ^ pl - m : Nat) : Int) := by
  have hge : m + 1 ≤ (m + 1) * 2 ^ pl := Nat.le_mul_of_pos_right _ Nat.one_le_two_pow
  rw [Int.natCast_sub (by omega), Int.natCast_mul]; simp

structure WJ (s₂ : Shared) (L Wd K D : Addr) (m : Nat) (t : Tok) (ws : List Str) (l : List (Str × Value)) (h : Heap) : Prop where
  a1 : l.lookup ("words" : Str) = some (.ref Wd)
  a2 : l.lookup ("kept" : Str) = some (.ref K)
  a3 : l.lookup ("numbers" : Str) = some (.ref D)
  a4 : l.lookup ("margin" : Str) = some (.int m t)
  a5 : Step [L] s₂.heap h
  a6 : LsAt h Wd ws
structure WJ2 (s₂ : Shared) (L Wd K D : Addr) (m : Nat) (t : Tok) (pl : Nat) (tk : Tok) (I : Addr) (oI : Obj) (ws : List Str) (l : List (Str × Value)) (h : Heap) : Prop where
  j : WJ s₂ L Wd K D m t ws l h
  b5 : l.lookup ("place" : Str) = some (.int pl tk)
  b8 : h.get? I = some oI

section
variable {s₂ : Shared} {L Wd K D I b : Addr} {m pl : Nat} {t tk : Tok} {ws : List Str} {l : List (Str × Value)} {h h' : Heap} {oI : Obj} {v : Value} {y : Str}
theorem WJ.iter (j : WJ s₂ L Wd K D m t ws l h) (hd : s₂.heap.get? b = none) (hb : Wd ≠ b) (st : Step [b] h h') : WJ s₂ L Wd K D m t ws l h' := ⟨j.a1, j.a2, j.a3, j.a4, j.a5.thn st (in1 (.inr hd)), ls_step j.a6 st (one1 hb)⟩
theorem WJ.in_ (j : WJ s₂ L Wd K D m t ws l h) (hb : Wd ≠ L) (hI : I ≠ L) (st : Step [L] h h') (i : h.get? I = some oI) : WJ2 s₂ L Wd K D m t pl tk I oI ws (("place", .int pl tk) :: l) h' := ⟨⟨lk_skip j.a1, lk_skip j.a2, lk_skip j.a3, lk_skip j.a4, j.a5.thn st (fun _ hb => .inl hb), ls_step j.a6 st (one1 hb)⟩, lk_here, st.keep _ _ (one1 hI) i⟩
theorem WJ2.ext (j : WJ2 s₂ L Wd K D m t pl tk I oI ws l h) (st : Step [] h h') : WJ2 s₂ L Wd K D m t pl tk I oI ws l h' := ⟨⟨j.j.a1, j.j.a2, j.j.a3, j.j.a4, j.j.a5.thn st nilT, ls_step j.j.a6 st nil1⟩, j.b5, st.keep _ _ nil1 j.b8⟩
theorem WJ2.iter (j : WJ2 s₂ L Wd K D m t pl tk I oI ws l h) (hd : s₂.heap.get? b = none) (hb : Wd ≠ b) (hI : I ≠ b) (st : Step [b] h h') : WJ2 s₂ L Wd K D m t pl tk I oI ws l h' := ⟨j.j.iter hd hb st, j.b5, st.keep _ _ (one1 hI) j.b8⟩
theorem WJ2.sto (j : WJ2 s₂ L Wd K D m t pl tk I oI ws l h) (hb : Wd ≠ L) (hI : I ≠ L) (st : Step [L] h h') : WJ2 s₂ L Wd K D m t pl tk I oI ws (("k", v) :: l) h' := ⟨⟨lk_skip j.j.a1, lk_skip j.j.a2, lk_skip j.j.a3, lk_skip j.j.a4, j.j.a5.thn st (fun _ hb => .inl hb), ls_step j.j.a6 st (one1 hb)⟩, lk_skip j.b5, st.keep _ _ (one1 hI) j.b8⟩
theorem WJ2.app {ws' : List Str} (j : WJ2 s₂ L Wd K D m t pl tk I oI ws l h) (hd : s₂.heap.get? Wd = none) (hI : I ≠ Wd) (e : LsAt h' Wd ws') (st : Step [Wd] h h') : WJ2 s₂ L Wd K D m t pl tk I oI ws' l h' := ⟨⟨j.j.a1, j.j.a2, j.j.a3, j.j.a4, j.j.a5.thn st (in1 (.inr hd)), e⟩, j.b5, st.keep _ _ (one1 hI) j.b8⟩
end
section
variable {w : World} {A : Around} {R : Result → Shared → Prop} {s : Shared} {t : Tok}

theorem words_ct {D : Addr} {ns : List Nat} {m : Nat} (gx : Gx w s.heap) (lv : Lv 3 A) (hD : LI s.heap D (ns.map Int.ofNat)) (hn : ns.length ≤ 5) (hb : ∀ n ∈ ns, n < 32) (hm : 1 ≤ m ∧ m ≤ 3) (hDn : D ∉ tabs)
    (ret : ∀ s' W, Go tabs s s' → Gx w s'.heap → LsAt s'.heap W (wordsOf m ns) → s.heap.get? W = none → (240 : Nat) ≤ W → R (.ok (.ret (.ref W))) s') :
    codeAny (model Pg w) A (.call (.ref 215) ⟨[.ref D, .int m t], []⟩) R s := by
  refine enterS (binds := [("numbers", .ref D), ("margin", .int m t)]) gx.g lv.in_ (by k_is) rfl rfl (by kernel_rfl) (BindsTo.of_eq (by kernel_rfl)) (by kernel_rfl) (by kernel_rfl) rfl rfl rfl rfl rfl fun L h₁ env he e n₁ st₁ hL hL' => ?_
  refine gen fun T E₀ hT => ?_
  have f := fn_in (w := w) (tk := s.toks + 2) gx n₁ st₁ hL hL'
  have hh : (A.deeper env).handled = none := lv.han
  have lv2 : Lv 2 (A.deeper env) := lv.deep
  obtain ⟨l0, il0, hl0⟩ := li_isList hD
  have hlen0 : (ivs l0).length = ns.length := by rw [ivs, List.length_map, ← List.length_map (·.1), hl0, List.length_map]
  have lift : ∀ s', Go tabs s s' → s'.heap.IsList D (ivs l0).toArray := fun s' go => il0.at fun o q => go.heap.keep _ _ hDn q
  clear il0 hD
  refine wpAny_execs_cons (compA (cl := []) (y := "kept") e hh (by rw [he]; kernel_rfl) (by decide) rfl (by decide) (by kernel_rfl) (by rw [he]; kernel_rfl) (by kernel_rfl) (rLcl e f.ns (v := .ref D) (by kernel_rfl) ⟨D, ivs l0, Kept s L h₁.objs.size ns, rfl, f, ?_, ?_, ?_, ?_⟩))
  · have zs : ∀ b, (b = h₁.objs.size ∨ b = h₁.objs.size + 1 ∨ b = h₁.objs.size + 2) → Fz s L b := by
      have g1 := f.ext (tk := s.toks) (Step.push h₁ (lstObj [] 0))
      have g2 := g1.ext (tk := s.toks) (Step.push _ (lstObj [] 0))
      have z1 := g1.fz
      have z2 := g2.fz
      simp only [Heap.size_push] at z1 z2
      exact or3 f.fz z1 z2
    refine ⟨lift _ f.go, by rw [hlen0]; (first | with_reducible exact Nat.le_trans (by assumption) (by decide) | omega), fun h' tk st => ⟨f.ext st, [], rfl, rfl, fun j a ha => nomatch ha⟩, fun k ys s' b h' tk j hb st => ⟨j.1.oth (zs b hb) st, j.2.step st (.inr hb)⟩, fun k ys s' j => lift s' j.1.go, ?_⟩
    intro k ys v s' mm E' j hv alive nC hmx
    obtain ⟨nk, tv, hnk, ev, hgd, hk⟩ := ivs_nat hl0 hv
    rw [ev] at hmx
    have hnb : nk < 32 := hb nk (List.mem_of_getElem? hnk)
    refine wpAny_pure (if_tt (rCall (rGlob (compEn e rfl) j.1.gx.g (show nsIn (Kf w) mainGlobals "_law_places" = some (some (.ref 210)) by kernel_rfl) (rArgs (P := fun h => Gr w h) (keep_fn (by kernel_rfl)) (wpAny_items_cons (nLoc (compEn e rfl) nC hmx (wpAny_items_nil ⟨j.1.gx.g, wpAny_call (places_ct j.1.gx lv2 (by (first | with_reducible exact Nat.lt_of_lt_of_le (by assumption) (by decide) | omega)) fun s'' P go gx' li dP hP => ?_)⟩) (by rw [he]; kernel_rfl)))) (by rw [he]; kernel_rfl))))
    have hne : ∀ b, (b = h₁.objs.size ∨ b = h₁.objs.size + 1 ∨ b = h₁.objs.size + 2) → P ≠ b := fun b hb => by
      obtain ⟨o, q⟩ := alive b hb
      exact Ne.symm (alive_ne q dP)
    exact ⟨⟨j.1.call go gx' (fun b hb => .inl hb), j.2.snoc go.heap (hgd ▸ li) (j.1.fzd dP hP) (hne _ (.inl rfl)) (hne _ (.inr (.inl rfl))) (hne _ (.inr (.inr rfl)))⟩, fun b hb o q => go.heap.keep _ _ (nin2 (ne240 (zs b hb).hi (by decide)) (ne240 (zs b hb).hi (by decide))) q⟩
  · exact fun k ys s' h' tk K st => K.step st (.inl rfl)
  · exact fun k ys s' h' tk K st => K.step st (.inr (.inr (.inr rfl)))
  · intro ys s₂ f₂ hk2 pl₂
    obtain ⟨as, eys, hlen, hK⟩ := hk2
    rw [hlen0] at hlen
    have neKL : h₁.objs.size + 1 ≠ L := by
      obtain ⟨o, es, ep, q, _⟩ := f.ns
      exact Nat.ne_of_gt (Nat.lt_of_lt_of_le (Heap.lt_size q) (Nat.le_succ _))
    -- what the heap keeps from here on
    have keepL : ∀ s' : Shared, Step [L] s₂.heap s'.heap → ∀ j a, as[j]? = some a → LI s'.heap a ((placesOf (ns.getD j 0)).map Int.ofNat) := fun s' st j a ha => li_step (hK j a ha).1 st (one1 (hK j a ha).2.1.ne)
    have keepK : ∀ s' : Shared, Step [L] s₂.heap s'.heap → s'.heap.IsList (h₁.objs.size + 1) ys.toArray := fun s' st => (pl₂.at fun o q => st.keep _ _ (one1 neKL) q).isList
    have hys : ∀ q, q < ns.length → ∃ aq, as[q]? = some aq ∧ ys.toArray[q]? = some (.ref aq) := fun q hq => ⟨as[q]'(hlen ▸ hq), List.getElem?_eq_getElem _, by rw [eys]; simp [hlen, hq]⟩
    have hysz : ys.length = ns.length := by rw [eys, List.length_map, hlen]
    generalize h₁.objs.size + 1 = K at f₂ keepK neKL
    clear pl₂ hK eys neKL f n₁ st₁
    refine wpAny_execs_cons (wpAny_Assign_Name (wpAny_List (wpAny_items_nil ⟨(by first | exact Nat.le_of_ble_eq_true rfl | simp [sizeLine]), ?_⟩)))
    have stW := Step.push s₂.heap (lstObj [] 0)
    have f₃ := f₂.ext (tk := s₂.toks) stW
    have zW := f₂.fz
    have dW := dead_size s₂.heap
    have eW : LsAt (s₂.heap.push (lstObj [] 0)) s₂.heap.objs.size [] := ⟨[], 0, Heap.get?_push_size _ rfl, rfl⟩
    generalize s₂.heap.objs.size = Wd at zW dW eW
    refine fSto f₃ e fun s₄ f₄ st₄ => ?_
    have eW₄ := ls_step eW st₄ (one1 zW.ne)
    have b₄ : Step [L] s₂.heap s₄.heap := (stW.mono nilT).thn st₄ (fun _ hb => .inl hb)
    clear eW st₄ f₃ stW
    -- for place in range(4, -1, -1)
    refine wpAny_execs_cons (wpAny_For (rCall (rBui e f₄.gx.g (v := .type "range") (by kernel_rfl) (rArgs (P := fun _ => True) (fun h q => ⟨.machine, .inr (.inl rfl), .of_pure rfl⟩) (wpAny_items_cons (wpAny_Constant_int (wpAny_items_cons (wpAny_UnaryOp (wpAny_Constant_int (neg_int (wpAny_items_cons (wpAny_UnaryOp (wpAny_Constant_int (neg_int (wpAny_items_nil ⟨trivial, call_range_3 (by decide) ?_ (.inl (PyProof.noPylong_small (by decide)))⟩)))))))))))))))
    have stQ := Step.push s₄.heap { cls := .type "range", data := .fields #[.int 4 s₄.toks, .int (-1) (s₄.toks + 1 + 1), .int (-1) (s₄.toks + 1 + 1 + 1 + 1)] }
    have f₅ := f₄.ext (tk := s₄.toks + 1 + 1 + 1 + 1 + 1) stQ
    have rQ : IsRange (s₄.heap.push { cls := .type "range", data := .fields #[.int 4 s₄.toks, .int (-1) (s₄.toks + 1 + 1), .int (-1) (s₄.toks + 1 + 1 + 1 + 1)] }) s₄.heap.objs.size 4 (-1) (-1) _ _ _ := IsRange.new ..
    generalize s₄.heap.push { cls := .type "range", data := .fields #[.int 4 s₄.toks, .int (-1) (s₄.toks + 1 + 1), .int (-1) (s₄.toks + 1 + 1 + 1 + 1)] } = hQ at f₅ rQ stQ
    have dI : s₂.heap.get? hQ.objs.size = none := dead_back (b₄.thn stQ nilT) (one1 f₅.fz.ne) (dead_size _)
    have zI := f₅.fz
    have eW₅ := ls_step eW₄ stQ nil1
    have hWI : Wd ≠ hQ.objs.size := by
      obtain ⟨l, n, q, _⟩ := eW₅
      exact Nat.ne_of_lt (Heap.lt_size q)
    refine rangeFor (w := w) (s₀ := s) (L := L) (n := 5) (fun p l s' => WJ s₂ L Wd K D m t (wordsP m ns p) l s'.heap) hh f₅ rQ (by decide +kernel) (by decide +kernel)
      (fun h' st' => ⟨lk_here, lk_skip (by kernel_rfl), by kernel_rfl, by kernel_rfl, (b₄.thn stQ nilT).thn st' nilT, ls_step eW₅ st' nil1⟩) (fun k l' s' h' tk j st' => j.iter dI hWI st') ?_ ?_
    · intro p l' s' tk T' E' hp j fp _ hoI hT'
      obtain ⟨oI, hoI⟩ := hoI
      dsimp only at hoI zI dI hWI hT'
      generalize hQ.objs.size = I at hoI zI dI hWI hT'
      refine fSto fp e fun s₆ f₆ st₆ => ?_
      obtain ⟨pl, hpl, hpl4⟩ : ∃ pl : Nat, (4 + (p : Int) * (-1)) = pl ∧ pl = 4 - p := ⟨4 - p, (by decide : ∀ p : Nat, p < 5 → (4 + (p : Int) * (-1)) = ((4 - p : Nat) : Int)) p hp, rfl⟩
      rw [hpl] at f₆
      have j₆ : WJ2 s₂ L Wd K D m t pl tk I oI (wordsP m ns p) _ s₆.heap := j.in_ zW.ne zI.ne st₆ hoI
      -- for k in range(len(numbers))
      refine wpAny_execs_cons (wpAny_For (rCall (rBui e f₆.gx.g (v := .type "range") (by kernel_rfl) (rArgs (P := fun _ => True) (fun h q => ⟨.machine, .inr (.inl rfl), .of_pure rfl⟩) (wpAny_items_cons (rCall (rBui e f₆.gx.g (v := .builtin "len") (by kernel_rfl) (rArgs (P := fun _ => True) (fun h q => keep_bui h q) (wpAny_items_cons (rLcl e f₆.ns j₆.j.a3 (wpAny_items_nil ⟨trivial, PyProof.Rows.len_list (lift s₆ f₆.go) (by show ((ivs l0).toArray.size : Int) < _; rw [List.size_toArray, hlen0]; omega) (wpAny_items_nil ⟨trivial, call_range_1 ?_⟩)⟩)))))))))))
      have hsz0 : (ivs l0).toArray.size = ns.length := hlen0
      rw [hsz0]
      have stR := Step.push s₆.heap { cls := .type "range", data := .fields #[.int 0 (s₆.toks + 1 + 1), .int (ns.length : Int) (s₆.toks + 1), .int 1 (s₆.toks + 1 + 1 + 1)] }
      have f₇ := f₆.ext (tk := s₆.toks + 1 + 1 + 1 + 1) stR
      have rR : IsRange (s₆.heap.push { cls := .type "range", data := .fields #[.int 0 (s₆.toks + 1 + 1), .int (ns.length : Int) (s₆.toks + 1), .int 1 (s₆.toks + 1 + 1 + 1)] }) s₆.heap.objs.size 0 (ns.length : Int) 1 _ _ _ := IsRange.new ..
      generalize s₆.heap.push { cls := .type "range", data := .fields #[.int 0 (s₆.toks + 1 + 1), .int (ns.length : Int) (s₆.toks + 1), .int 1 (s₆.toks + 1 + 1 + 1)] } = hR at f₇ rR stR
      have j₇ := j₆.ext stR
      have dK := dead_back j₇.j.a5 (one1 f₇.fz.ne) (dead_size _)
      have zK := f₇.fz
      have hWK : Wd ≠ hR.objs.size := alive_ne j₇.j.a6.choose_spec.choose_spec.1 (dead_size _)
      have hIK : I ≠ hR.objs.size := alive_ne j₇.b8 (dead_size _)
      clear j j₆ f₆ fp st₆ stR
      refine rangeFor (w := w) (s₀ := s) (L := L) (n := ns.length) (fun q l s' => WJ2 s₂ L Wd K D m t pl tk I oI (wordsP m ns p ++ wordsTo m pl ns q) l s'.heap) hh f₇ rR (small_one (by omega) (by omega) (by omega) (by omega)) (by rw [rangeSize_one]; split <;> omega)
        (fun h' st' => (List.append_nil (wordsP m ns p)).symm ▸ j₇.ext st') (fun k l' s' h' tk j st' => j.iter dK hWK hIK st') ?_ ?_
      · intro q l₈ s₈ tq T'' E'' hq j f₈ _ hoK hT''
        clear j₇ f₇ rR
        dsimp only at hoK hT'' zK dK hWK hIK
        generalize hR.objs.size = J at hoK hT'' zK dK hWK hIK
        refine fSto f₈ e fun s₉ f₉ st₉ => ?_
        rw [show ((0 : Int) + (q : Int) * 1) = (q : Int) by omega] at f₉
        have j₉ : WJ2 s₂ L Wd K D m t pl tk I oI (wordsP m ns p ++ wordsTo m pl ns q) (("k", .int (q : Int) tq) :: l₈) s₉.heap := j.sto zW.ne zI.ne st₉
        have fwd : ∀ o, s₈.heap.get? J = some o → s₉.heap.get? J = some o := fun o h => st₉.keep _ _ (one1 zK.ne) h
        clear j st₉ f₈
        obtain ⟨aq, haq, hyq⟩ := hys q hq
        obtain ⟨lq, ilq, hlq⟩ := li_isList (keepL s₉ j₉.j.a5 q aq haq)
        have ilK := keepK s₉ j₉.j.a5
        refine wpAny_execs_cons (wpAny_If (wpAny_isTrue_Compare1 (rLcl e f₉.ns j₉.b5 (Subscript_ (rLcl e f₉.ns j₉.j.a2 (rLcl e f₉.ns lk_here (any_tail ilK.typeIs slot_list_getitem.lookup (wpAny_getItem_list (x := .ref aq) ilK (by (first | with_reducible exact Int.natCast_nonneg _ | omega)) (by omega) hyq (in_list_ints ilq (intsAre lq) (wpAny_truthy_bool ?_))) ⟨_, rfl⟩)))))))
        rw [any_place hlq]
        by_cases hin : pl ∈ placesOf (ns.getD q 0)
        · rw [decide_eq_true hin]
          refine if_tt ?_
          have hplb : pl ≤ 4 := hpl4 ▸ Nat.sub_le _ _
          refine wpAny_execs_cons (wpAny_Expr (methodCall_KW (kws := []) (rLcl e f₉.ns j₉.j.a1 (ls_meth j₉.j.a6 (rArgs (P := fun _ => True) (fun h q => keep_bui h q) (wpAny_items_cons (wpAny_BinOp (Subscript_ (wpAny_Constant_str (rLcl e f₉.tk.ns lk_here (any_tail (typeIs_str _ _ _) F.slot_str_getitem.lookup (PyProof.Rows.getItem_str (c := 97 + q) (nat_in (by omega)) (get_let (by omega)) ?_) ⟨_, rfl⟩)))))))))) e.inter)
          refine wpAny_BinOp (wpAny_BinOp (wpAny_BinOp (rLcl e f₉.tk.ns j₉.j.a4 (wpAny_Constant_int (wpAny_add_int (wpAny_BinOp (wpAny_Constant_int (rLcl e f₉.tk.ns j₉.b5 (pow_int (by (first | with_reducible exact Int.natCast_nonneg _ | omega)) (by rw [show (Builtin.Int.intBits 2 : Int) = 2 by decide]; omega) ?_)))))))))
          refine mul_int (rLcl e f₉.tk.ns j₉.j.a4 (sub_int ?_)) (IntMulOk.of_left (intBits_le_64 (by omega) (by omega)))
          rw [wid_e]
          refine SB.mul (mulOk_wd _ _ (wid_b hm.2 hplb)) fun t₇ k₇ => ?_
          rw [wd_mul]
          have hlw := wordsP_len m ns hn p
          have hlt := wordsTo_len m pl ns q
          refine wpAny_items_nil ⟨trivial, ls_append j₉.j.a6 (by rw [List.length_append]; omega) fun hA eA stA => ?_⟩
          refine wpAny_execs_nil (wpAny_execs_nil (hT'' _ _ (f₉.oth (tk := k₇) zW stA) (j₉.app dW (Ne.symm hWI) ?_ stA) (fun o h => stA.keep _ _ (one1 (Ne.symm hWK)) (fwd o h))))
          rw [wordsTo_succ, if_pos hin, ← List.append_assoc]
          exact eA
        · rw [decide_eq_false hin]
          refine if_ff (wpAny_execs_nil (wpAny_execs_nil (hT'' _ _ f₉ ?_ fwd)))
          rw [wordsTo_succ, if_neg hin, List.append_nil]
          exact j₉
      · exact fun l₈ s₈ j f₈ => wpAny_execs_nil (hT' _ _ f₈ (wordsP_succ hpl4 hp ▸ j.j) (fun o q => Option.some.inj (hoI.symm.trans q) ▸ j.b8))
    · exact fun l' s' j fl => wpAny_execs_cons (wpAny_Return_some (rLcl e fl.ns j.a1 (hT _ _ (ret _ _ fl.go fl.gx j.a6 zW.dead zW.hi))))
end
end Mine.Internal
end

section
open PySem PySem.W PyProof.Rows PySem.Calls Builtin Builtin.Str
set_option maxRecDepth 100000
set_option maxHeartbeats 4000000
set_option linter.unusedVariables false
namespace Mine.Internal

theorem Go.stepL {W : List Addr} {s s' : Shared} (g : Go W s s') : Step W s.heap s'.heap := g.heap

noncomputable def Quiet (w : World) (A : Around) (cenv : Env) (ifs : List Expr) (elt : Expr) (o o' : List Int) (E' : Value → Shared → Prop) (s : Shared) : Prop :=
  wpAny (model Pg w) A (forIn ifs true fun c r => if r = true then do let ok ← isTrue c cenv (eval c cenv); pure (ForInStep.yield ok) else pure (ForInStep.yield r))
    (fun ok s' => ∃ tk, s' = { s with toks := tk } ∧ if ok = true then wpAny (model Pg w) A (eval elt cenv) (fun y s'' => ∃ z t tk', y = Value.int z t ∧ s'' = { s with toks := tk' } ∧ o' = o ++ [z]) E' s' else o' = o) E' s

theorem ivs_snoc (l : List (Int × Tok)) (z : Int) (t : Tok) : ivs l ++ [Value.int z t] = ivs (l ++ [(z, t)]) := by simp

theorem of_if_ff {a b : Prop} (h : if false = true then a else b) : b := by simpa using h
noncomputable def IO (out : Nat → List Int) (k : Nat) (ys : List Value) : Prop := ∃ l : List (Int × Tok), ys = ivs l ∧ l.map (·.1) = out k
theorem IO.same {out : Nat → List Int} {k : Nat} {ys : List Value} (i : IO out k ys) (h : out (k + 1) = out k) : IO out (k + 1) ys := i.imp fun _ e => ⟨e.1, e.2.trans h.symm⟩
theorem IO.snoc {out : Nat → List Int} {k : Nat} {ys : List Value} {z : Int} {t : Tok} (i : IO out k ys) (h : out (k + 1) = out k ++ [z]) : IO out (k + 1) (ys ++ [.int z t]) :=
  i.elim fun l e => ⟨l ++ [(z, t)], e.1 ▸ ivs_snoc l z t, by rw [h, List.map_append, e.2]; rfl⟩
theorem dead3 {h : Heap} : ∀ b : Addr, h.objs.size ≤ b → h.get? b = none := fun b hb => by
  cases z : h.get? b with
  | none => rfl
  | some o => exact absurd (Heap.lt_size z) (Nat.not_lt.mpr hb)
theorem near (h : Heap) : ∀ b : Addr, (b = h.objs.size ∨ b = h.objs.size + 1 ∨ b = h.objs.size + 2) → h.get? b = none := or3 (dead3 _ (Nat.le_refl _)) (dead3 _ (Nat.le_succ _)) (dead3 _ (Nat.le_add_right _ 2))
theorem near_hi {N : Nat} (hN : (240 : Nat) ≤ N) : ∀ b : Addr, (b = N ∨ b = N + 1 ∨ b = N + 2) → (240 : Nat) ≤ b := or3 hN (Nat.le_succ_of_le hN) (Nat.le_add_right_of_le hN)
theorem quiet_go {w : World} {A : Around} {cenv : Env} {ifs : List Expr} {elt : Expr} {out : Nat → List Int} {k N : Nat} {ys : List Value} {s : Shared} {J : Nat → List Value → Shared → Prop} {E' : Value → Shared → Prop} (io : IO out k ys)
    (jt : ∀ tk ys', IO out (k + 1) ys' → J (k + 1) ys' { s with toks := tk }) (q : Quiet w A cenv ifs elt (out k) (out (k + 1)) E' s) :
    wpAny (model Pg w) A (forIn ifs true fun c r => if r = true then do let ok ← isTrue c cenv (eval c cenv); pure (ForInStep.yield ok) else pure (ForInStep.yield r))
      (fun ok s' => if ok = true then wpAny (model Pg w) A (eval elt cenv) (fun y s'' => J (k + 1) (ys ++ [y]) s'' ∧ Kp N s s'') E' s' else J (k + 1) ys s' ∧ Kp N s s') E' s := by
  refine wpAny_mono q (fun ok s' h => ?_) fun _ _ z => z
  obtain ⟨tk, e, h⟩ := h
  subst e
  cases ok with
  | false => exact if_ff ⟨jt tk ys (io.same (of_if_ff h)), fun b _ o q => q⟩
  | true =>
    refine if_tt (wpAny_mono (of_if_tt h) (fun y s₃ h₃ => ?_) fun _ _ z => z)
    obtain ⟨z, t, tk', ey, e, ho⟩ := h₃
    subst e
    subst ey
    exact ⟨jt tk' _ (io.snoc ho), fun b _ o q => q⟩
structure CQ (w : World) (A : Around) (env : Env) (scope : Scope) (cl : List (Str × Addr)) (x : Str) (ifs : List Expr) (elt : Expr) (out : Nat → List Int) (D : Addr) (items : List Value) (s₁ : Shared) (Q : Value → Shared → Prop) : Prop where
  il : s₁.heap.IsList D items.toArray
  few : items.length ≤ 10000
  h0 : out 0 = []
  turn : ∀ k v s m C E', items[k]? = some v → Go [] s₁ s → s.heap.Ns C m → m x = some v → Quiet w A (compEnvC scope cl C env) ifs elt (out k) (out (k + 1)) E' s
  fin : ∀ s', Go [] s₁ s' → LI s'.heap (s₁.heap.objs.size + 1) (out items.length) → Q (.ref (s₁.heap.objs.size + 1)) s'
structure CQA (w : World) (A : Around) (s₀ : Shared) (L : Addr) (l : List (Str × Value)) (env : Env) (scope : Scope) (cl : List (Str × Addr)) (x y : Str) (ifs : List Expr) (elt : Expr) (out : Nat → List Int) (D : Addr) (items : List Value) (s₁ : Shared) (Q : Flow → Shared → Prop) : Prop where
  il : s₁.heap.IsList D items.toArray
  few : items.length ≤ 10000
  h0 : out 0 = []
  f : Fn w s₀ L l s₁
  turn : ∀ k v s m C E', items[k]? = some v → Step [L] s₁.heap s.heap → Fn w s₀ L l s → s.heap.Ns C m → m x = some v → Quiet w A (compEnvC scope cl C env) ifs elt (out k) (out (k + 1)) E' s
  fin : ∀ s' N, Fn w s₀ L ((y, .ref N) :: l) s' → Step [L] s₁.heap s'.heap → LI s'.heap N (out items.length) → Fz s₀ L N → s₁.heap.get? N = none → Q .next s'

theorem ns_list {h : Heap} {L D : Addr} {m : Str → Option Value} {xs : Array Value} (n : h.Ns L m) (il : h.IsList D xs) : D ≠ L := by
  intro z
  subst z
  obtain ⟨o, es, ep, q, hd, _⟩ := n
  obtain ⟨o', q', _, n, hd'⟩ := il
  rw [q] at q'
  cases q'
  rw [hd] at hd'
  cases hd'
theorem compQ {w : World} {A : Around} {E : Value → Shared → Prop} {s : Shared} {env : Env} {elt iter : Expr} {x : Str} {px pos : Pos} {ifs : List Expr} {scope : Scope} {cl : List (Str × Addr)} {Q : Value → Shared → Prop} (out : Nat → List Int)
    (hh : A.handled = none) (hclos : closureFor scope env = pure cl) (hcell : ∀ y ∈ scope.names, y.2 ≠ .cell) (hkind : scope.kind = .function) (hnames : ∀ y ∈ scope.names, y.2 = .local → scope.names.lookup y.1 = some .local) (hx : scope.names.lookup x = some .local)
    (h : wpAny (model Pg w) A (eval iter env) (fun v s₁ => ∃ (D : Addr) (items : List Value), v = .ref D ∧ CQ w A env scope cl x ifs elt out D items s₁ Q) E s)
    (hs : ∀ x, foldedSetIterable iter env x = pure x := by intro _; rfl) :
    wpAny (model Pg w) A (eval (.ListComp elt [⟨.Name x px, iter, ifs, 0⟩] scope pos) env) Q E s := by
  refine compE hh hclos hcell hkind hnames hx (wpAny_mono h (fun v s₁ h₁ => ?_) fun _ _ z => z) hs
  obtain ⟨D, items, ev, c⟩ := h₁
  exact ⟨D, items, fun k ys s' => Go [] s₁ s' ∧ IO out k ys, ev, ⟨c.il, c.few, fun h' tk st => ⟨Go.of st, [], rfl, c.h0.symm⟩, fun k ys s' b h' tk j hb st => ⟨j.1.thn (Go.of st) (in1 (.inr (near _ b hb))), j.2⟩,
    fun k ys s' j => c.il.at fun o q => j.1.heap.keep _ _ nil1 q, fun k ys v s' m E' j hv alive hn hm => quiet_go (J := fun k ys s' => Go [] s₁ s' ∧ IO out k ys) j.2 (fun tk ys' io => ⟨j.1.tk, io⟩) (c.turn k v s' m _ E' hv j.1 hn hm)⟩,
    fun ys s' j pl => j.2.elim fun l e => pl.elim fun n p => c.fin s' j.1 ⟨l, n, e.1 ▸ p, e.2⟩⟩

theorem compQA {w : World} {A : Around} {E : Value → Shared → Prop} {s₀ s : Shared} {L : Addr} {l : List (Str × Value)} {ks : List (Str × NameKind)} {env : Env} {elt iter : Expr} {x y : Str} {px py pos spos : Pos} {ifs : List Expr} {scope : Scope} {cl : List (Str × Addr)} {Q : Flow → Shared → Prop} (out : Nat → List Int)
    (e : En env L ks) (hh : A.handled = none) (hclos : closureFor scope env = pure cl) (hcell : ∀ y ∈ scope.names, y.2 ≠ .cell) (hkind : scope.kind = .function) (hnames : ∀ y ∈ scope.names, y.2 = .local → scope.names.lookup y.1 = some .local) (hx : scope.names.lookup x = some .local)
    (hsw : swapsWith (.ListComp elt [⟨.Name x px, iter, ifs, 0⟩] scope pos) (some (.Name y py)) spos.line env = pure true) (hl : ks.lookup y = some .local)
    (h : wpAny (model Pg w) A (eval iter env) (fun v s₁ => ∃ (D : Addr) (items : List Value), v = .ref D ∧ CQA w A s₀ L l env scope cl x y ifs elt out D items s₁ Q) E s)
    (hs : ∀ x, foldedSetIterable iter env x = pure x := by intro _; rfl) :
    wpAny (model Pg w) A (exec (.Assign [.Name y py] (.ListComp elt [⟨.Name x px, iter, ifs, 0⟩] scope pos) spos) env) Q E s := by
  refine compA (s₀ := s₀) (l := l) e hh hclos hcell hkind hnames hx hsw hl (wpAny_mono h (fun v s₁ h₁ => ?_) fun _ _ z => z) hs
  obtain ⟨D, items, ev, c⟩ := h₁
  have hd := near s₁.heap
  have fz : ∀ b : Addr, (b = s₁.heap.objs.size ∨ b = s₁.heap.objs.size + 1 ∨ b = s₁.heap.objs.size + 2) → Fz s₀ L b := fun b hb => c.f.fzd (hd b hb) (near_hi c.f.gx.g.size b hb)
  have DL : D ≠ L := ns_list c.f.ns c.il
  exact ⟨D, items, fun k ys s' => Step [L] s₁.heap s'.heap ∧ IO out k ys, ev, c.f, ⟨c.il, c.few, fun h' tk st => ⟨c.f.ext st, st.mono nilT, [], rfl, c.h0.symm⟩, fun k ys s' b h' tk j hb st => ⟨j.1.oth (fz b hb) st, j.2.1.thn st (in1 (.inr (hd _ hb))), j.2.2⟩,
    fun k ys s' j => c.il.at fun o q => j.2.1.keep _ _ (one1 DL) q, fun k ys v s' m E' j hv alive hn hm => quiet_go (J := fun k ys s' => Fn w s₀ L l s' ∧ Step [L] s₁.heap s'.heap ∧ IO out k ys) j.2.2 (fun tk ys' io => ⟨j.1.tk, j.2.1, io⟩) (c.turn k v s' m _ E' hv j.2.1 j.1 hn hm)⟩,
    fun k ys s' h' tk j st => ⟨j.1.thn st (fun b hb => .inl hb), j.2⟩, fun k ys s' h' tk j st => ⟨j.1.thn st (in1 (.inr (hd _ (.inr (.inr rfl))))), j.2⟩,
    fun ys s' f' j pl => j.2.elim fun l e => pl.elim fun n p => c.fin s' _ f' j.1 ⟨l, n, e.1 ▸ p, e.2⟩ (fz _ (.inr (.inl rfl))) (hd _ (.inr (.inl rfl)))⟩
end Mine.Internal
end

section
open PySem PySem.W PyProof.Rows PySem.Calls Builtin Builtin.Str
set_option maxRecDepth 100000
set_option maxHeartbeats 4000000
set_option linter.unusedVariables false
namespace Mine.Internal

theorem compTurn2_0 (elt t1 i1 t2 i2 : Expr) (ifs : List Expr) (scope : Scope) (pos : Pos) (it acc : Value) (env : Env) :
    compTurn (.ListComp elt [⟨t1, i1, [], 0⟩, ⟨t2, i2, ifs, 0⟩] scope pos) 0 it acc env = (do
      standAt i1.pos
      match ← pyNext it with
      | none => pure (.done .next)
      | some v =>
        letOwnedTupleGo t1 it v
        assign t1 env v
        let x ← eval i2 env
        standAt i2.pos
        let x ← foldedSetIterable i2 env x
        let it2 ← holding [x] (pyIter x)
        let _ ← runOwn (.compStart (.ListComp elt [⟨t1, i1, [], 0⟩, ⟨t2, i2, ifs, 0⟩] scope pos) 1 it2 acc env) env
        again (.compLoop (.ListComp elt [⟨t1, i1, [], 0⟩, ⟨t2, i2, ifs, 0⟩] scope pos) 0 it acc env)) := by rfl

theorem compTurn2_1 (elt t1 i1 t2 i2 : Expr) (ifs : List Expr) (scope : Scope) (pos : Pos) (it acc : Value) (env : Env) :
    compTurn (.ListComp elt [⟨t1, i1, [], 0⟩, ⟨t2, i2, ifs, 0⟩] scope pos) 1 it acc env = (do
      standAt i2.pos
      match ← pyNext it with
      | none => pure (.done .next)
      | some v =>
        letOwnedTupleGo t2 it v
        assign t2 env v
        let mut ok := true
        for c in ifs do
          if ok then ok ← isTrue c env (eval c env)
        if ok then
          (do let _ ← call (.builtin "list.append") [acc, ← eval elt env])
        again (.compLoop (.ListComp elt [⟨t1, i1, [], 0⟩, ⟨t2, i2, ifs, 0⟩] scope pos) 1 it acc env)) := by rfl

section
variable {prog : Program} {w : World} {A : Around} {E : Value → Shared → Prop} {R : Result → Shared → Prop} {s : Shared}

theorem compLoop2_0 {LC : Expr} {elt t1 i1 t2 i2 : Expr} {ifs : List Expr} {scope : Scope} {pos : Pos} {it acc : Value} {env : Env} (hLC : LC = .ListComp elt [⟨t1, i1, [], 0⟩, ⟨t2, i2, ifs, 0⟩] scope pos) (I : Nat → Shared → Prop)
    (turn : ∀ n s (E1 : Value → Shared → Prop) (Tn : Option Value → Shared → Prop) (Rt : Result → Shared → Prop), I n s → (∀ f s' m, m < n → I m s' → Rt (.ok f) s') → (∀ s₁, R (.ok .next) s₁ → Tn none s₁) →
      (∀ v s₁, wpAny (model prog w) A (assign t1 env v) (fun _ s₂ =>
          wpAny (model prog w) A (eval i2 env) (fun x s₃ => wpAny (model prog w) A (pyIter x) (fun it2 s₄ =>
            codeAny (model prog w) A (.compStart LC 1 it2 acc env) Rt s₄) E1 s₃) E1 s₂) E1 s₁ → Tn (some v) s₁) → wpAny (model prog w) A (pyNext it) Tn E1 s)
    (n : Nat) (h : I n s) (ht : ∀ v, letOwnedTupleGo t1 it v = pure () := by intro _; rfl) (hs : ∀ x, foldedSetIterable i2 env x = pure x := by intro _; rfl) :
    codeAny (model prog w) A (.compLoop LC 0 it acc env) R s := by
  subst hLC
  refine codeAny_loop rfl I (fun n s hI => ?_) n h
  show wpAny _ A ((compTurn (.ListComp elt [⟨t1, i1, [], 0⟩, ⟨t2, i2, ifs, 0⟩] scope pos) 0 it acc env).onRaise (fun x => do noteFrame x env; theTreesLotGoes x)) _ _ s
  refine wpAny_noted ?_
  rw [compTurn2_0]
  refine wpAny_bind (wpAny_standAt (wpAny_bind (turn n s _ _ (fun r s₅ => match r with
              | .ok _ => ∃ m, m < n ∧ I m s₅
              | .error e => cameBackBy (model prog w) A env (notedBy (model prog w) A env fun e s' => R (.error e) s') e s₅) hI (fun _ _ m hm hi => ⟨m, hm, hi⟩) (fun s₁ h₁ => ?_) (fun v s₁ h₁ => ?_))))
  · exact wpAny_pure h₁
  · refine wpAny_bind (wpAny_of_eq (ht v) ?_)
    refine wpAny_bind (wpAny_mono h₁ (fun _ s₂ h₂ => wpAny_bind (wpAny_mono h₂ (fun x s₃ h₃ => ?_) fun _ _ h' => h')) fun _ _ h' => h')
    refine wpAny_bind (wpAny_standAt (wpAny_bind (wpAny_of_eq (hs x) (wpAny_bind (wpAny_holding (wpAny_mono h₃ (fun it2 s₄ h₄ => ?_) fun _ _ h' => h'))))))
    refine wpAny_bind (wpAny_runOwn (codeAny_mono h₄ fun r s₅ h₅ => ?_))
    cases r with
    | ok f => exact wpAny_pure ⟨rfl, h₅⟩
    | error e => exact h₅

theorem compLoop2_1 {LC : Expr} {elt t1 i1 t2 i2 : Expr} {ifs : List Expr} {scope : Scope} {pos : Pos} {it acc : Value} {env : Env} (hLC : LC = .ListComp elt [⟨t1, i1, [], 0⟩, ⟨t2, i2, ifs, 0⟩] scope pos) (I : Nat → Shared → Prop)
    (turn : ∀ n s (E1 : Value → Shared → Prop) (Tn : Option Value → Shared → Prop) (Tm : Shared → Prop), I n s → (∀ s' m, m < n → I m s' → Tm s') → (∀ s₁, R (.ok .next) s₁ → Tn none s₁) →
      (∀ v s₁, wpAny (model prog w) A (assign t2 env v) (fun _ s₂ =>
          wpAny (model prog w) A (forIn ifs true fun c r => if r = true then do let ok ← isTrue c env (eval c env); pure (ForInStep.yield ok) else pure (ForInStep.yield r)) (fun ok s₃ =>
            if ok = true then wpAny (model prog w) A (eval elt env) (fun x s₄ =>
              wpAny (model prog w) A (call (.builtin "list.append") [acc, x]) (fun _ s₅ => Tm s₅) E1 s₄) E1 s₃
            else Tm s₃) E1 s₂) E1 s₁ → Tn (some v) s₁) → wpAny (model prog w) A (pyNext it) Tn E1 s)
    (n : Nat) (h : I n s) (ht : ∀ v, letOwnedTupleGo t2 it v = pure () := by intro _; rfl) :
    codeAny (model prog w) A (.compLoop LC 1 it acc env) R s := by
  subst hLC
  refine codeAny_loop rfl I (fun n s hI => ?_) n h
  show wpAny _ A ((compTurn (.ListComp elt [⟨t1, i1, [], 0⟩, ⟨t2, i2, ifs, 0⟩] scope pos) 1 it acc env).onRaise (fun x => do noteFrame x env; theTreesLotGoes x)) _ _ s
  refine wpAny_noted ?_
  rw [compTurn2_1]
  refine wpAny_bind (wpAny_standAt (wpAny_bind (turn n s _ _ (fun s₅ => ∃ m, m < n ∧ I m s₅) hI (fun _ m hm hi => ⟨m, hm, hi⟩) (fun s₁ h₁ => ?_) (fun v s₁ h₁ => ?_))))
  · exact wpAny_pure h₁
  · refine wpAny_bind (wpAny_of_eq (ht v) ?_)
    refine wpAny_bind (wpAny_mono h₁ (fun _ s₂ h₂ => wpAny_bind (wpAny_mono h₂ (fun ok s₃ h₃ => ?_) fun _ _ h' => h')) fun _ _ h' => h')
    cases ok with
    | false => exact wpAny_pure ⟨rfl, h₃⟩
    | true =>
      exact wpAny_bind (wpAny_bind (wpAny_mono h₃ (fun x s₄ h₄ => wpAny_bind (wpAny_mono h₄ (fun _ s₅ h₅ => wpAny_pure (wpAny_pure ⟨rfl, h₅⟩)) fun _ _ h' => h')) fun _ _ h' => h'))

theorem compStart2_1 {LC : Expr} {elt t1 i1 t2 i2 : Expr} {ifs : List Expr} {scope : Scope} {pos : Pos} {it acc : Value} {env : Env} (hLC : LC = .ListComp elt [⟨t1, i1, [], 0⟩, ⟨t2, i2, ifs, 0⟩] scope pos)
    (h0 : codeAny (model prog w) A (.compLoop LC 1 it acc env) R s)
    (h : ∀ E1 : Value → Shared → Prop, wpAny (model prog w) A (pyIter it) (fun it' s' => codeAny (model prog w) A (.compLoop LC 1 it' acc env) R s') E1 s) :
    codeAny (model prog w) A (.compStart LC 1 it acc env) R s := by
  subst hLC
  have h := h (notedBy (model prog w) A env fun x s' => R (.error x) s')
  refine codeAny_of_tree ?_
  show wpAny _ _ ((compStart (.ListComp elt [⟨t1, i1, [], 0⟩, ⟨t2, i2, ifs, 0⟩] scope pos) 1 it acc env).onRaise (fun x => do noteFrame x env; standAt theWindowsPlace)) _ _ s
  refine wpAny_notedAt ?_
  unfold compStart
  show wpAny _ _ (ask >>= _) _ _ s
  refine wpAny_bind (wpAny_askSetting (wpAny_ite ?_))
  split
  · first
      | exact wpAny_bind (wpAny_pure (wpAny_pure (And.intro rfl h0)))
      | exact wpAny_pure (And.intro rfl h0)
  · first
      | exact wpAny_bind (wpAny_rule (wpAny_bind (wpAny_standAt (wpAny_bind (wpAny_mono h (fun it' s' h' => wpAny_pure (And.intro rfl h')) fun _ _ x => x)))))
      | (refine wpAny_bind (wpAny_rule ?_); show wpAny _ _ (standAt i2.pos >>= _) _ _ s; exact wpAny_bind (wpAny_standAt (wpAny_bind (wpAny_mono h (fun it' s' h' => wpAny_pure (And.intro rfl h')) fun _ _ x => x))))
end
end Mine.Internal
end

section
open PySem PySem.W PyProof.Rows PySem.Calls Builtin Builtin.Str
set_option maxRecDepth 100000
set_option maxHeartbeats 4000000
set_option linter.unusedVariables false
namespace Mine.Internal


structure Cx (s₀ s₁ : Shared) (L N : Addr) : Prop where
  dead : ∀ b, N ≤ b → s₁.heap.get? b = none
  fz : ∀ b, N ≤ b → Fz s₀ L b
theorem Cx.go {s₀ s₁ s' : Shared} {L N b : Addr} {h' : Heap} {tk : Nat} (c : Cx s₀ s₁ L N) (go : Go [] s₁ s') (hb : N ≤ b) (st : Step [b] s'.heap h') : Go [] s₁ { s' with heap := h', toks := tk } :=
  go.thn (Go.of st) (in1 (.inr (c.dead _ hb)))

structure J0 (w : World) (s₀ s₁ : Shared) (L : Addr) (l : List (Str × Value)) (N D1 : Addr) (os : List Int) (k : Nat) (m : Str → Option Value) (s' : Shared) : Prop where
  go : Go [] s₁ s'
  f : Fn w s₀ L l s'
  i : s'.heap.IsListIter N D1 k
  a : LI s'.heap (N + 1) os
  n : s'.heap.Ns (N + 2) m

section
variable {w : World} {s₀ s₁ s' : Shared} {L N D1 : Addr} {l : List (Str × Value)} {os os' : List Int} {k k' : Nat} {m m' : Str → Option Value} {h' : Heap} {tk : Nat}
theorem J0.iter (p : J0 w s₀ s₁ L l N D1 os k m s') (c : Cx s₀ s₁ L N) (st : Step [N] s'.heap h') (i : h'.IsListIter N D1 k') : J0 w s₀ s₁ L l N D1 os k' m { s' with heap := h', toks := tk } :=
  ⟨c.go p.go (Nat.le_refl _) st, p.f.oth (c.fz _ (Nat.le_refl _)) st, i, li_step p.a st (one1 (Nat.succ_ne_self _)), ns_step p.n st (one1 (Nat.ne_of_gt (Nat.lt_succ_of_lt (Nat.lt_succ_self _))))⟩
theorem J0.app (p : J0 w s₀ s₁ L l N D1 os k m s') (c : Cx s₀ s₁ L N) (st : Step [N + 1] s'.heap h') (a : LI h' (N + 1) os') : J0 w s₀ s₁ L l N D1 os' k m { s' with heap := h', toks := tk } :=
  ⟨c.go p.go (Nat.le_succ _) st, p.f.oth (c.fz _ (Nat.le_succ _)) st, p.i.at fun o q => st.keep _ _ (one1 (Nat.ne_of_lt (Nat.lt_succ_self _))) q, a, ns_step p.n st (one1 (Nat.succ_ne_self _))⟩
theorem J0.sto (p : J0 w s₀ s₁ L l N D1 os k m s') (c : Cx s₀ s₁ L N) (st : Step [N + 2] s'.heap h') (n : h'.Ns (N + 2) m') : J0 w s₀ s₁ L l N D1 os k m' { s' with heap := h', toks := tk } :=
  ⟨c.go p.go (Nat.le_add_right _ _) st, p.f.oth (c.fz _ (Nat.le_add_right _ _)) st, p.i.at fun o q => st.keep _ _ (one1 (Nat.ne_of_lt (Nat.lt_succ_of_lt (Nat.lt_succ_self _)))) q, li_step p.a st (one1 (Nat.ne_of_lt (Nat.lt_succ_self _))), n⟩
theorem J0.oth (p : J0 w s₀ s₁ L l N D1 os k m s') (c : Cx s₀ s₁ L N) {b : Addr} (hb : N + 2 < b) (st : Step [b] s'.heap h') : J0 w s₀ s₁ L l N D1 os k m { s' with heap := h', toks := tk } :=
  have h0 : N < b := Nat.lt_of_le_of_lt (Nat.le_add_right _ _) hb
  ⟨c.go p.go (Nat.le_of_lt h0) st, p.f.oth (c.fz _ (Nat.le_of_lt h0)) st, p.i.at fun o q => st.keep _ _ (one1 (Nat.ne_of_lt h0)) q, li_step p.a st (one1 (Nat.ne_of_lt (Nat.lt_of_le_of_lt (Nat.le_succ _) hb))), ns_step p.n st (one1 (Nat.ne_of_lt hb))⟩
theorem J0.ext (p : J0 w s₀ s₁ L l N D1 os k m s') (st : Step [] s'.heap h') : J0 w s₀ s₁ L l N D1 os k m { s' with heap := h', toks := tk } :=
  ⟨⟨p.go.heap.thn st nilT, p.go.gens, p.go.os⟩, p.f.ext st, p.i.at fun o q => st.keep _ _ nil1 q, li_step p.a st nil1, ns_step p.n st nil1⟩
end

structure J1 (w : World) (s₀ s₁ : Shared) (L : Addr) (l : List (Str × Value)) (N D1 J D2 : Addr) (os : List Int) (k j : Nat) (x1 : Str) (v1 : Value) (m : Str → Option Value) (s' : Shared) : Prop where
  p : J0 w s₀ s₁ L l N D1 os k m s'
  jj : s'.heap.IsListIter J D2 j
  hm : m x1 = some v1

section
variable {w : World} {A : Around} {s₀ s₁ : Shared} {L : Addr} {l : List (Str × Value)} {ce : Env} {elt i1 i2 : Expr} {x1 x2 : Str} {px1 px2 pos : Pos} {ifs : List Expr} {scope : Scope} {LC : Expr} {N D1 D2 : Addr} {it1 it2 : List Value} (out : Nat → Nat → List Int)
theorem inner2 {R : Result → Shared → Prop} {J : Addr} {k : Nat} {v1 : Value} (hLC : LC = .ListComp elt [⟨.Name x1 px1, i1, [], 0⟩, ⟨.Name x2 px2, i2, ifs, 0⟩] scope pos) (hh : A.handled = none) (hne : x1 ≠ x2)
    (hloc : ce.locals = N + 2) (kindx2 : ce.kindOf x2 = some .local) (kindp : (ce.scope.kind == .class || (ce.scope.kind == .module && ce.locals != ce.globals)) = false)
    (il2 : s₁.heap.IsList D2 it2.toArray) (ofew : ∀ j, (out k j).length ≤ 10000) (c : Cx s₀ s₁ L N) (hJ : N + 2 < J) (k1 : Nat)
    (turn : ∀ j v2 s m E', it2[j]? = some v2 → Go [] s₁ s → Fn w s₀ L l s → s.heap.Ns (N + 2) m → m x1 = some v1 → m x2 = some v2 → Quiet w A ce ifs elt (out k j) (out k (j + 1)) E' s)
    (fin : ∀ s' m, J0 w s₀ s₁ L l N D1 (out k it2.length) k1 m s' → R (.ok .next) s') {s : Shared} {m : Str → Option Value} (st : J1 w s₀ s₁ L l N D1 J D2 (out k 0) k1 0 x1 v1 m s) :
    codeAny (model Pg w) A (.compLoop LC 1 (.ref J) (.ref (N + 1)) ce) R s := by
  have jN : N ≠ J := Nat.ne_of_lt (Nat.lt_of_le_of_lt (Nat.le_add_right _ _) hJ)
  refine compLoop2_1 hLC (fun n s' => ∃ j m, j ≤ it2.length ∧ n = it2.length - j ∧ J1 w s₀ s₁ L l N D1 J D2 (out k j) k1 j x1 v1 m s') (fun n s₆ E1 Tn Tm hI gm g0 gs => ?_) it2.length ⟨0, m, Nat.zero_le _, rfl, st⟩
  obtain ⟨j, m₆, hj, rfl, p, jj₆, hm₆⟩ := hI
  have il2₆ := il2.at fun o q => p.go.heap.keep _ _ nil1 q
  by_cases hjl : j < it2.length
  · have hw : it2.toArray[j]? = some (it2[j]'hjl) := by simp [hjl]
    have hw' : it2[j]? = some (it2[j]'hjl) := by simp [hjl]
    refine wpAny_pyNext_list_item jj₆ il2₆ hw fun h₇ jj₇ sb₇ => gs _ _ ?_
    have p₇ := p.oth (tk := s₆.toks) c hJ (stepOf sb₇)
    clear jj₆ il2₆ p
    generalize (it2[j]'hjl) = v2 at hw' ⊢
    refine wpAny_assign_Name (wpAny_storeName_local kindx2 (hloc.symm ▸ p₇.n) (fun h₈ n₈ sb₈ => ?_) kindp)
    rw [hloc] at n₈ sb₈
    have hA : (fun z => if z = x2 then some v2 else m₆ z) x1 = some v1 := (if_neg hne).trans hm₆
    have hB : (fun z => if z = x2 then some v2 else m₆ z) x2 = some v2 := if_pos rfl
    generalize (fun z => if z = x2 then some v2 else m₆ z) = m₈ at n₈ hA hB
    have p₈ := p₇.sto (tk := s₆.toks + 1) c (stepOf sb₈) n₈
    have jj₈ : h₈.IsListIter J D2 (j + 1) := jj₇.at fun o q => (stepOf sb₈).keep _ _ (one1 (Nat.ne_of_gt hJ)) q
    refine wpAny_mono (turn j _ _ m₈ _ hw' p₈.go p₈.f p₈.n hA hB) (fun ok s₉ h₉ => ?_) fun _ _ z => z
    obtain ⟨tk₉, rfl, h₉⟩ := h₉
    have hdec := Nat.sub_lt_sub_left hjl (Nat.lt_succ_self j)
    cases ok with
    | false =>
      have h3 : out k (j + 1) = out k j := by simpa using h₉
      refine if_ff (gm _ _ hdec ⟨j + 1, m₈, hjl, rfl, ?_, jj₈, hA⟩)
      rw [h3]; exact ⟨⟨p₈.go.heap, p₈.go.gens, p₈.go.os⟩, p₈.f.tk, p₈.i, p₈.a, p₈.n⟩
    | true =>
      refine if_tt (wpAny_mono (of_if_tt h₉) (fun y' s₁₀ h₁₀ => ?_) fun _ _ z => z)
      obtain ⟨z, t, tk', rfl, rfl, ho⟩ := h₁₀
      refine li_append p₈.a (ofew j) fun h₁₁ a₁₁ st₁₁ => gm _ _ hdec ⟨j + 1, m₈, hjl, rfl, ?_, jj₈.at fun o q => st₁₁.keep _ _ (one1 (Nat.ne_of_gt (Nat.lt_of_le_of_lt (Nat.le_succ _) hJ))) q, hA⟩
      rw [ho]; exact p₈.app (tk := tk') c st₁₁ a₁₁
  · have ej : j = it2.length := Nat.le_antisymm hj (Nat.not_lt.mp hjl)
    rw [ej] at p
    refine wpAny_pyNext_list_end hh jj₆ il2₆ (by rw [ej]; simp) fun h₇ ex₇ => g0 _ (fin _ m₆ (p.oth (tk := s₆.toks) c hJ (stepExt ex₇)))

theorem loop2 {R : Result → Shared → Prop} (hLC : LC = .ListComp elt [⟨.Name x1 px1, i1, [], 0⟩, ⟨.Name x2 px2, i2, ifs, 0⟩] scope pos) (hh : A.handled = none) (hne : x1 ≠ x2)
    (kindx1 : ce.kindOf x1 = some .local) (hloc : ce.locals = N + 2) (kindx2 : ce.kindOf x2 = some .local) (kindp : (ce.scope.kind == .class || (ce.scope.kind == .module && ce.locals != ce.globals)) = false) (fol2 : ∀ x, foldedSetIterable i2 ce x = pure x)
    (il1 : s₁.heap.IsList D1 it1.toArray) (il2 : s₁.heap.IsList D2 it2.toArray) (onx : ∀ k, out k it2.length = out (k + 1) 0) (ofew : ∀ k j, (out k j).length ≤ 10000) (c : Cx s₀ s₁ L N)
    (hi2 : ∀ s (E' : Value → Shared → Prop), Go [] s₁ s → Fn w s₀ L l s → wpAny (model Pg w) A (eval i2 ce) (fun y s' => ∃ tk, y = .ref D2 ∧ s' = { s with toks := tk }) E' s)
    (turn : ∀ k j v1 v2 s m E', it1[k]? = some v1 → it2[j]? = some v2 → Go [] s₁ s → Fn w s₀ L l s → s.heap.Ns (N + 2) m → m x1 = some v1 → m x2 = some v2 → Quiet w A ce ifs elt (out k j) (out k (j + 1)) E' s)
    (fin : ∀ s' m, Go [] s₁ s' → Fn w s₀ L l s' → LI s'.heap (N + 1) (out it1.length 0) → s'.heap.Ns (N + 2) m → R (.ok .next) s') {s : Shared} {m : Str → Option Value} (st : J0 w s₀ s₁ L l N D1 (out 0 0) 0 m s) :
    codeAny (model Pg w) A (.compLoop LC 0 (.ref N) (.ref (N + 1)) ce) R s := by
  refine compLoop2_0 hLC (fun n s' => ∃ k m, k ≤ it1.length ∧ n = it1.length - k ∧ J0 w s₀ s₁ L l N D1 (out k 0) k m s') (fun n s' E1 Tn Rt hI gm g0 gs => ?_) it1.length ⟨0, m, Nat.zero_le _, rfl, st⟩ (fun _ => rfl) fol2
  obtain ⟨k, m, hk, rfl, p⟩ := hI
  have il1' := il1.at fun o q => p.go.heap.keep _ _ nil1 q
  by_cases hkl : k < it1.length
  · have hv : it1.toArray[k]? = some (it1[k]'hkl) := by simp [hkl]
    have hv' : it1[k]? = some (it1[k]'hkl) := by simp [hkl]
    refine wpAny_pyNext_list_item p.i il1' hv fun h₂ i₂ sb₂ => gs _ _ ?_
    have p₂ := p.iter (tk := s'.toks) c (stepOf sb₂) i₂
    clear il1' p
    generalize (it1[k]'hkl) = v1 at hv' ⊢
    refine wpAny_assign_Name (wpAny_storeName_local kindx1 (hloc.symm ▸ p₂.n) (fun h₃ n₃ sb₃ => ?_) kindp)
    rw [hloc] at n₃ sb₃
    have hm₃ : (fun z => if z = x1 then some v1 else m z) x1 = some v1 := if_pos rfl
    generalize (fun z => if z = x1 then some v1 else m z) = m₃ at n₃ hm₃
    have p₃ := p₂.sto (tk := s'.toks + 1) c (stepOf sb₃) n₃
    refine wpAny_mono (hi2 _ _ p₃.go p₃.f) (fun x s₄ h₄ => ?_) fun _ _ z => z
    obtain ⟨tk₄, rfl, rfl⟩ := h₄
    have il2' : h₃.IsList D2 it2.toArray := il2.at fun o q => p₃.go.heap.keep _ _ nil1 q
    refine wpAny_pyIter_list il2' ?_
    have hIN : N + 2 < h₃.objs.size := by obtain ⟨o, _, _, q, _⟩ := n₃; exact Heap.lt_size q
    have eI : (h₃.push { cls := .type "list_iterator", data := .fields #[.ref D2, .int 0 0] }).IsListIter h₃.objs.size D2 0 := ⟨_, Heap.get?_push_size _ rfl, rfl, rfl⟩
    have p₄ := p₃.ext (tk := tk₄) (Step.push h₃ { cls := .type "list_iterator", data := .fields #[.ref D2, .int 0 0] })
    dsimp only at p₄ ⊢
    generalize h₃.objs.size = J at hIN eI ⊢
    have res := inner2 (R := Rt) out hLC hh hne hloc kindx2 kindp il2 (ofew k) c hIN (k + 1) (fun j v2 s m E' h2 => turn k j v1 v2 s m E' hv' h2) (fun s' m' pe => gm _ _ _ (Nat.sub_lt_sub_left hkl (Nat.lt_succ_self k)) ⟨k + 1, m', hkl, rfl, by rw [← onx]; exact pe⟩) ⟨p₄, eI, hm₃⟩
    exact compStart2_1 hLC res fun _ => wpAny_pyIter_listiter (l := D2) (i := 0) eI res
  · have ek : k = it1.length := Nat.le_antisymm hk (Nat.not_lt.mp hkl)
    rw [ek] at p
    refine wpAny_pyNext_list_end hh p.i il1' (by simp) fun h₂ ex₂ => g0 _ ?_
    have st₂ := stepExt ex₂
    exact fin _ m (c.go (tk := s'.toks) p.go (Nat.le_refl _) st₂) (p.f.oth (tk := s'.toks) (c.fz _ (Nat.le_refl _)) st₂) (li_step p.a st₂ (one1 (Nat.succ_ne_self _))) (ns_step p.n st₂ (one1 (Nat.ne_of_gt (Nat.lt_succ_of_lt (Nat.lt_succ_self _)))))
end

structure CQ2A (w : World) (A : Around) (s₀ : Shared) (L : Addr) (l : List (Str × Value)) (env : Env) (scope : Scope) (cl : List (Str × Addr)) (x1 x2 y : Str) (i2 : Expr) (ifs : List Expr) (elt : Expr) (out : Nat → Nat → List Int) (D1 D2 : Addr) (it1 it2 : List Value) (s₁ : Shared) (Q : Flow → Shared → Prop) : Prop where
  il1 : s₁.heap.IsList D1 it1.toArray
  il2 : s₁.heap.IsList D2 it2.toArray
  o0 : out 0 0 = []
  onx : ∀ k, out k it2.length = out (k + 1) 0
  few : ∀ k j, (out k j).length ≤ 10000
  f : Fn w s₀ L l s₁
  hi2 : ∀ s C (E' : Value → Shared → Prop), Go [] s₁ s → Fn w s₀ L l s → wpAny (model Pg w) A (eval i2 (compEnvC scope cl C env)) (fun y s' => ∃ tk, y = .ref D2 ∧ s' = { s with toks := tk }) E' s
  turn : ∀ k j v1 v2 s m C E', it1[k]? = some v1 → it2[j]? = some v2 → Go [] s₁ s → Fn w s₀ L l s → s.heap.Ns C m → m x1 = some v1 → m x2 = some v2 → Quiet w A (compEnvC scope cl C env) ifs elt (out k j) (out k (j + 1)) E' s
  fin : ∀ s' N, Fn w s₀ L ((y, .ref N) :: l) s' → Step [L] s₁.heap s'.heap → LI s'.heap N (out it1.length 0) → Fz s₀ L N → s₁.heap.get? N = none → Q .next s'

theorem compQ2A {w : World} {A : Around} {E : Value → Shared → Prop} {s₀ s : Shared} {L : Addr} {l : List (Str × Value)} {ks : List (Str × NameKind)} {env : Env} {elt i1 i2 : Expr} {x1 x2 y : Str} {px1 px2 py pos spos : Pos} {ifs : List Expr} {scope : Scope} {cl : List (Str × Addr)} {Q : Flow → Shared → Prop} (out : Nat → Nat → List Int)
    (e : En env L ks) (hh : A.handled = none) (hclos : closureFor scope env = pure cl) (hcell : ∀ y ∈ scope.names, y.2 ≠ .cell) (hkind : scope.kind = .function) (hnames : ∀ y ∈ scope.names, y.2 = .local → scope.names.lookup y.1 = some .local) (hx1 : scope.names.lookup x1 = some .local) (hx2 : scope.names.lookup x2 = some .local) (hne : x1 ≠ x2)
    (hsw : swapsWith (.ListComp elt [⟨.Name x1 px1, i1, [], 0⟩, ⟨.Name x2 px2, i2, ifs, 0⟩] scope pos) (some (.Name y py)) spos.line env = pure true) (hl : ks.lookup y = some .local)
    (h : wpAny (model Pg w) A (eval i1 env) (fun v s₁ => ∃ (D1 D2 : Addr) (it1 it2 : List Value), v = .ref D1 ∧ CQ2A w A s₀ L l env scope cl x1 x2 y i2 ifs elt out D1 D2 it1 it2 s₁ Q) E s)
    (hs : ∀ x, foldedSetIterable i1 env x = pure x := by intro _; rfl) (hs2 : ∀ (env' : Env) x, foldedSetIterable i2 env' x = pure x := by intro _ _; rfl) :
    wpAny (model Pg w) A (exec (.Assign [.Name y py] (.ListComp elt [⟨.Name x1 px1, i1, [], 0⟩, ⟨.Name x2 px2, i2, ifs, 0⟩] scope pos) spos) env) Q E s := by
  rw [exec_Assign_Name_used _ _ _ _ hsw]
  refine wpAny_bind (wpAny_standAt (wpAny_bind ?_))
  show wpAny _ A (do let _ ← comprehension (.ListComp elt [⟨.Name x1 px1, i1, [], 0⟩, ⟨.Name x2 px2, i2, ifs, 0⟩] scope pos) scope env _ (newList []) false (eval i1 env) (some (assign (.Name y py) env))) _ _ s
  refine wpAny_bind (wpAny_mono (wpAny_comprehension_free (use := some (assign (.Name y py) env)) (Q := fun _ s' => Q .next s') rfl hs hclos hkind hnames
    (wpAny_mono h (fun v s₁ h₁ => ?_) fun _ _ e => e)) (fun _ s' hq => wpAny_pure (wpAny_pure hq)) fun _ _ e => e)
  obtain ⟨D1, D2, it1, it2, rfl, q⟩ := h₁
  have f₁ := q.f
  refine wpAny_pyIter_list q.il1 ?_
  refine wpAny_newObj_type (wpAny_newFunctionEnv hcell (by intro y hy; simp at hy) (fun h₁ hns₁ hsb₁ => ?_) hkind)
  dsimp only at hns₁ hsb₁ ⊢
  simp only [Heap.size_push] at hns₁ hsb₁ ⊢
  have hdead : ∀ b, s₁.heap.objs.size ≤ b → s₁.heap.get? b = none := dead3
  have hbig := f₁.gx.g.size
  have hfz : ∀ b : Addr, s₁.heap.objs.size ≤ b → Fz s₀ L b := fun b hb => f₁.fzd (hdead b hb) (Nat.le_trans hbig hb)
  generalize hH : s₁.heap.objs.size = N at *
  have n02 : N ≠ N + 1 + 1 := Nat.ne_of_lt (by omega)
  have n12 : N + 1 ≠ N + 1 + 1 := Nat.ne_of_lt (by omega)
  have n01 : N ≠ N + 1 := Nat.ne_of_lt (by omega)
  have e0 : h₁.get? N = some { cls := .type "list_iterator", data := .fields #[.ref D1, .int 0 0] } := by
    refine hsb₁.extBut _ _ n02 (Heap.get?_push_of_some _ (Heap.get?_push_of_some _ ?_))
    rw [← hH]; exact Heap.get?_push_size _ rfl
  have e1 : LI h₁ (N + 1) [] := ⟨[], 0, by
    refine hsb₁.extBut _ _ n12 (Heap.get?_push_of_some _ ?_)
    have := Heap.get?_push_size (s₁.heap.push { cls := .type "list_iterator", data := .fields #[.ref D1, .int 0 0] }) (o := { cls := .type "list", data := .seq ([] : List Value).toArray }) rfl
    rwa [Heap.size_push, hH] at this, rfl⟩
  have st : Step [] s₁.heap h₁ := ⟨fun b o _ q => hsb₁.extBut b o (by have := Heap.lt_size q; rw [hH] at this; exact Nat.ne_of_lt (Nat.lt_of_lt_of_le this (by omega))) (Heap.get?_push_of_some _ (Heap.get?_push_of_some _ (Heap.get?_push_of_some _ q)))⟩
  have kindx1 : Env.kindOf (compEnvC scope cl (N + 2) env) x1 = some .local := lookup_relabel_local hx1
  have kindx2 : Env.kindOf (compEnvC scope cl (N + 2) env) x2 = some .local := lookup_relabel_local hx2
  have kindp : ((compEnvC scope cl (N + 2) env).scope.kind == .class || ((compEnvC scope cl (N + 2) env).scope.kind == .module && (compEnvC scope cl (N + 2) env).locals != (compEnvC scope cl (N + 2) env).globals)) = false := by
    show (scope.kind == .class || (scope.kind == .module && _)) = false
    rw [hkind]; rfl
  have c : Cx s₀ s₁ L N := ⟨hdead, hfz⟩
  have fol2 := hs2 (compEnvC scope cl (N + 2) env)
  have hloc : (compEnvC scope cl (N + 2) env).locals = N + 2 := rfl
  have st0 : J0 w s₀ s₁ L l N D1 (out 0 0) 0 _ { s₁ with heap := h₁, toks := s₁.toks + ([] : List (Str × Value)).length } := ⟨Go.of st, f₁.ext st, ⟨_, e0, rfl, rfl⟩, by rw [q.o0]; exact e1, hns₁⟩
  have loop := loop2 (R := compPost (model Pg w) A E (some (assign (.Name y py) env)) (fun _ s' => Q .next s') (.ref (N + 1)) (N + 2)) (i1 := i1) (px1 := px1) (px2 := px2) (pos := pos) (scope := scope) out rfl hh hne kindx1 hloc kindx2 kindp fol2 q.il1 q.il2 q.onx q.few c (fun s => q.hi2 s (N + 2)) (fun k j v1 v2 s m => q.turn k j v1 v2 s m (N + 2)) (fun s' m go₂ f₂ a₂ n₂ => by
    show wpAny _ A (assign (.Name y py) env (.ref (N + 1))) _ _ _
    refine wpAny_assign_Name (rStoS e f₂.ns (fun h₃ n₃ st₃ => ⟨m, ns_step n₂ st₃ (one1 (hfz (N + 2) (Nat.le_add_right _ _)).ne), fun h' sb => ?_⟩) hl)
    have f₃ := f₂.sto (tk := s'.toks + 1) n₃ st₃
    have f₄ := f₃.oth (tk := s'.toks + 1) (hfz (N + 2) (Nat.le_add_right _ _)) (stepOf sb)
    refine q.fin _ (N + 1) f₄ ?_ ?_ (hfz _ (Nat.le_succ _)) (hdead _ (Nat.le_succ _))
    · exact ((go₂.heap.mono (W' := [L]) nilT).thn st₃ (fun b hb => .inl hb)).thn (stepOf sb) (in1 (.inr (hdead _ (Nat.le_add_right _ _))))
    · exact li_step (li_step a₂ st₃ (one1 (hfz (N + 1) (Nat.le_succ _)).ne)) (stepOf sb) (one1 (Nat.ne_of_lt (Nat.lt_succ_self _)))) st0
  exact codeAny_compStart_list loop (wpAny_pyIter_listiter (s := { s₁ with heap := h₁, toks := s₁.toks + ([] : List (Str × Value)).length }) ⟨_, e0, rfl, rfl⟩ loop)
end Mine.Internal
end

section
open PySem PySem.W PyProof.Rows PySem.Calls Builtin Builtin.Str
set_option maxRecDepth 100000
set_option maxHeartbeats 4000000
set_option linter.unusedVariables false
namespace Mine.Internal

theorem enterC {w : World} {A : Around} {R : Result → Shared → Prop} {s : Shared} {f : Addr} {o : Obj} {fd : FuncData} {body : List Stmt} {vals : List Value} {binds : List (Str × Value)}
    (g : Gr w s.heap) (hroom : A.depth < recursionLimit)
    (ho : (KK w.params).lookup f = some o) (hdata : o.data = .func fd) (hbody : fd.body = .stmts body) (hcd : codeIn (Kf w) fd.code fd.qualname = true) (hbind : bindArgs fd ⟨vals, []⟩ = pure binds) (hclo : fd.closure = [])
    (hkind : ∀ n : Nat, (binds.all fun x => fd.scope.names.lookup x.1 == some .local || (fd.scope.names.lookup x.1 == some .cell && ((cellsFrom n fd.scope.names []).lookup x.1).isSome)) = true)
    (hco : fd.scope.isCoroutine = false) (hgen : fd.scope.isGenerator = false) (hk : fd.scope.kind = .function) (hgl : fd.globals = mainGlobals) (hbi : fd.builtins = builtinsNs)
    (h : ∀ L h₁ tk env, env = callEnvC fd L f → En env L fd.scope.names → h₁.Ns L (bindL env.kindOf binds fun _ => none) →
      (∀ n c, env.cells.lookup n = some c → h₁.IsCell c (bindC env.kindOf binds (fun _ => none) n) ∧ L < c) → Step [] s.heap h₁ → L = s.heap.objs.size →
      wpAny (model Pg w) (A.deeper env) (execs body env) (fun fl s' => R (.ok (.ret (match fl with | .ret v => v | _ => .none))) s') (fun _ _ => False) { s with heap := h₁, toks := tk }) :
    codeAny (model Pg w) A (.call (.ref f) ⟨vals, []⟩) R s := by
  refine codeAny_call_cells (fd := fd) (body := body) (binds := binds) hroom (g.X _ _ ho) hdata g.nolimit (codeRec_of g.X hcd) hbody hbind hclo (fun x hx => ?_) (fun s₁ ic => ?_) hco hgen hk
  · have := List.all_eq_true.mp (hkind (s.heap.objs.size + 1)) x hx
    simp only [Bool.or_eq_true, Bool.and_eq_true, beq_iff_eq] at this
    exact this
  · obtain ⟨h₁, tk, rfl⟩ := ic.toInCall.same
    refine wpAny_mono (h _ h₁ tk _ rfl ⟨hk, rfl, fun _ => rfl, hgl, hbi⟩ ic.toInCall.ns (fun n c hc => ⟨ic.cell n c hc, ic.above n c (mem_of_lookup hc)⟩) ⟨fun b o _ q => ic.toInCall.keep b o q⟩ rfl) (fun _ _ z => z) fun _ _ z => z.elim

section
variable {w : World} {A : Around} {E : Value → Shared → Prop} {s s₀ : Shared} {L c : Addr} {l : List (Str × Value)} {v : Value}

theorem rCel {M : Model} {env : Env} {C : Addr} {ks : List (Str × NameKind)} {x : Str} {pos : Pos} {Q : Value → Shared → Prop} (e : En env C ks) (hc : env.cells.lookup x = some c) (hv : s.heap.IsCell c (some v)) (h : Q v s)
    (hl : ks.lookup x = some .cell := by kernel_rfl) (hd : (x == ("__debug__" : Str)) = false := by kernel_rfl) : wpAny M A (eval (.Name x pos) env) Q E s :=
  wpAny_Name (wpAny_loadName_cell e.kind ((e.kinds x).trans hl) hc hv h) hd
theorem sCel {M : Model} {env : Env} {C : Addr} {ks : List (Str × NameKind)} {x : Str} {v₀ : Option Value} {Q : Unit → Shared → Prop} (e : En env C ks) (hc : env.cells.lookup x = some c) (hv : s.heap.IsCell c v₀)
    (h : ∀ h', h'.IsCell c (some v) → Step [c] s.heap h' → Q () { s with heap := h' })
    (hl : ks.lookup x = some .cell := by kernel_rfl) : wpAny M A (storeName env x v) Q E s :=
  wpAny_storeName_cell e.kind ((e.kinds x).trans hl) hc hv fun h' q sb => h h' q (stepOf sb)
theorem cell_step {h h' : Heap} {v : Option Value} {W : List Addr} (a : h.IsCell c v) (st : Step W h h') (hc : c ∉ W) : h'.IsCell c v := let ⟨o, q, r⟩ := a; ⟨o, st.keep _ _ hc q, r⟩

theorem li_obj {h : Heap} {D : Addr} {ns : List Int} (a : LI h D ns) : ∃ l n, IsL h D (ivs l).toArray n ∧ l.map (·.1) = ns := a
theorem li_add {D1 D2 : Addr} {ns ms : List Int} {Q : Value → Shared → Prop} (a : LI s.heap D1 ns) (b : LI s.heap D2 ms) (hz : ns.length + ms.length ≤ 10000)
    (h : ∀ h', LI h' s.heap.objs.size (ns ++ ms) → Step [] s.heap h' → Q (.ref s.heap.objs.size) { s with heap := h' }) : wpAny (model Pg w) A (binaryOp .Add (.ref D1) (.ref D2)) Q E s := by
  obtain ⟨l1, n1, e1, r1⟩ := a
  obtain ⟨l2, n2, e2, r2⟩ := b
  have z1 : l1.length = ns.length := by rw [← r1]; simp
  have z2 : l2.length = ms.length := by rw [← r2]; simp
  refine PySem.P.add_list (show IsL s.heap D1 (ivs l1).toArray n1 from e1) (show IsL s.heap D2 (ivs l2).toArray n2 from e2) (h _ ⟨l1 ++ l2, 0, ?_, by rw [List.map_append, r1, r2]⟩ (Step.push _ _)) (by simp [sizeLine]; omega)
  have := Heap.get?_push_size s.heap (o := { cls := .type "list", data := .seq ((ivs l1).toArray ++ (ivs l2).toArray) }) rfl
  rw [this]
  simp

theorem mul_ok {x : Int} {l : List Value} (hl : l.length = 1) (h0 : 0 ≤ x) (hx : x ≤ 10000) : ¬(!Builtin.List.listFitsIndex x) = true ∧ ¬l.toArray.size * x.toNat > (2 ^ 63 - 1) / 8 ∧ ¬Builtin.List.listTooLong (l.toArray.size * x.toNat) = true := by
  have hs1 : l.toArray.size * x.toNat = x.toNat := by rw [List.size_toArray, hl]; omega
  rw [hs1]
  refine ⟨?_, ?_, ?_⟩
  · have h1 : decide (-(2 ^ 63 : Int) ≤ x) = true := decide_eq_true (by omega)
    have h2 : decide (x < 2 ^ 63) = true := decide_eq_true (by omega)
    unfold Builtin.List.listFitsIndex
    rw [h1, h2]; decide
  · have : (10000 : Nat) ≤ (2 ^ 63 - 1) / 8 := by decide
    omega
  · unfold Builtin.List.listTooLong
    have : (10000 : Nat) ≤ sizeLine := by decide
    simp only [decide_eq_true_eq]
    omega
theorem mul_list1 {D : Addr} {l : List Value} {n : Nat} {x : Int} {u : Tok} {Q : Value → Shared → Prop} (e : s.heap.get? D = some (lstObj l n)) (hl : l.length = 1) (h0 : 0 ≤ x) (hx : x ≤ 10000)
    (h : Q (.ref s.heap.objs.size) { s with heap := s.heap.push { cls := .type "list", data := .seq (List.foldl (fun x1 x2 => x1 ++ x2) #[] (List.replicate (if l.toArray.isEmpty = true then 0 else x.toNat) l.toArray)) } }) : wpAny (model Pg w) A (binaryOp .Mult (.ref D) (.int x u)) Q E s := by
  obtain ⟨c0, c1, c2⟩ := mul_ok (l := l) hl h0 hx
  exact wpAny_binaryOp_repeat_ref (T := "list") (U := "int") (by decide) ⟨_, e, rfl⟩ (fun s' => typeIs_int s' x u) noFill_list_mul F.fills_int_mul F.slot_int_rmul repeat_list F.slot_int_index.lookup
    (call_meets F.slot_int_rmul (typeIs_int s x u) F.entry_int_rmul (F.args_int_rmul_2 _ _) (int___rmul___int_list x u D l.toArray n)
      ⟨e, rfl, ⟨_, e, rfl⟩, call_meets F.slot_list_mul ⟨_, e, rfl⟩ F.entry_list_mul (F.args_list_mul_2 _ _)
        (AutoListH.list___mul___list_int_3 D l.toArray n x u c0 c1 c2)
        ⟨e, h⟩⟩)

theorem li_mul {D : Addr} {v : Int} {k : Nat} {u : Tok} {Q : Value → Shared → Prop} (a : LI s.heap D [v]) (hk : k ≤ 10000)
    (h : ∀ h', LI h' s.heap.objs.size (List.replicate k v) → Step [] s.heap h' → Q (.ref s.heap.objs.size) { s with heap := h' }) : wpAny (model Pg w) A (binaryOp .Mult (.ref D) (.int k u)) Q E s := by
  obtain ⟨l, n, e, r⟩ := a
  obtain ⟨tv, rfl⟩ : ∃ tv, l = [(v, tv)] := by
    cases l with
    | nil => simp at r
    | cons p t =>
      cases t with
      | nil => obtain ⟨p1, p2⟩ := p; simp at r; exact ⟨p2, by rw [r]⟩
      | cons q t => simp at r
  refine mul_list1 e (by first | exact nilT | exact nil1 | k_mem | simp) (by (first | with_reducible exact Int.natCast_nonneg _ | omega)) (by omega) (h _ ⟨List.replicate k (v, tv), 0, ?_, by simp⟩ (Step.push _ _))
  refine (Heap.get?_push_size _ rfl).trans ?_
  rw [listMul_foldl_if, Int.toNat_natCast]
  congr 3
  simp only [ivs, List.map_replicate, List.map_cons, List.map_nil]
  rw [show List.replicate k [Value.int v tv] = (List.replicate k (Value.int v tv)).map fun x => [x] by simp, ← List.flatMap_def]
  simp

theorem sum_li {D : Addr} {xs : List (Int × Tok)} {Q : Value → Shared → Prop} (hh : A.handled = none) (a : s.heap.IsList D (ivs xs).toArray)
    (h : ∀ h' tk t', Step [] s.heap h' → Q (.int (xs.map (·.1)).sum t') { s with heap := h', toks := tk }) : wpAny (model Pg w) A (call (.builtin "sum") [.ref D]) Q E s := by
  have a' : s.heap.IsList D (intItems xs.toArray) := by
    have : intItems xs.toArray = (ivs xs).toArray := by unfold intItems; simp
    rw [this]; exact a
  refine sum_intListG hh a' fun h' tk t' hk => ?_
  have := h h' tk t' ⟨fun b o _ q => hk b o q⟩
  rw [preSum_eq, List.take_of_length_le (by first | exact nilT | exact nil1 | k_mem | simp)]
  exact this
end
end Mine.Internal
end

section
open PySem PySem.W PyProof.Rows PySem.Calls Builtin Builtin.Str
set_option maxRecDepth 100000
set_option maxHeartbeats 4000000
set_option linter.unusedVariables false
namespace Mine.Internal

theorem fmodN (a b : Nat) : ((a : Int)).fmod (b : Int) = ((a % b : Nat) : Int) := by
  rw [Int.fmod_eq_emod_of_nonneg _ (by (first | with_reducible exact Int.natCast_nonneg _ | omega))]; simp
theorem fdivN (a b : Nat) : ((a : Int)).fdiv (b : Int) = ((a / b : Nat) : Int) := by
  rw [Int.fdiv_eq_ediv_of_nonneg _ (by (first | with_reducible exact Int.natCast_nonneg _ | omega))]; simp
theorem sumN (l : List Nat) : (l.map Int.ofNat).sum = ((l.sum : Nat) : Int) := by
  induction l with
  | nil => rfl
  | cons x r ih => rw [List.map_cons, List.sum_cons, List.sum_cons, ih]; simp

noncomputable def grOf (W b : Nat) (ns : List Nat) : List Nat := ns.filterMap fun n => if W < b ∧ n / b % 2 = 1 then some b else none
noncomputable def bits5 : List Nat := [16, 8, 4, 2, 1]
noncomputable def greatOf (ns : List Nat) (W : Nat) : List Nat := bits5.flatMap fun b => grOf W b ns
noncomputable def smallOf (ns : List Nat) (W : Nat) : Nat := (ns.map (· % (2 * W))).sum
noncomputable def sizesOf (ns : List Nat) (W : Nat) : List Nat := greatOf ns W ++ List.replicate (smallOf ns W / W) W ++ if 0 < smallOf ns W % W then [smallOf ns W % W] else []

noncomputable def outG (ns : List Nat) (W k j : Nat) : List Int := ((bits5.take k).flatMap (fun b => grOf W b ns) ++ grOf W (bits5.getD k 0) (ns.take j)).map Int.ofNat
theorem grOf_len (W b : Nat) (ns : List Nat) : (grOf W b ns).length ≤ ns.length := List.length_filterMap_le _ _
theorem flat_len (W : Nat) (ns : List Nat) (l : List Nat) : (l.flatMap fun b => grOf W b ns).length ≤ l.length * ns.length := by
  induction l with
  | nil => simp
  | cons x r ih =>
    rw [List.flatMap_cons, List.length_append, List.length_cons, Nat.succ_mul]
    have := grOf_len W x ns
    omega
theorem outG_next (ns : List Nat) (W k : Nat) : outG ns W k ns.length = outG ns W (k + 1) 0 := by
  unfold outG
  rw [List.take_length, List.take_zero, show grOf W (bits5.getD (k + 1) 0) [] = [] from rfl, List.append_nil, List.take_add_one]
  congr 1
  rw [List.flatMap_append]
  congr 1
  by_cases hk : k < bits5.length
  · rw [List.getElem?_eq_getElem hk, List.getD_eq_getElem?_getD, List.getElem?_eq_getElem hk]; simp
  · rw [List.getElem?_eq_none (by omega), List.getD_eq_getElem?_getD, List.getElem?_eq_none (by omega)]
    show grOf W 0 ns = []
    unfold grOf
    simp
theorem outG_few (ns : List Nat) (W k j : Nat) (hn : ns.length ≤ 10) : (outG ns W k j).length ≤ 10000 := by
  unfold outG
  rw [List.length_map, List.length_append]
  have h1 := flat_len W ns (bits5.take k)
  have h2 := grOf_len W (bits5.getD k 0) (ns.take j)
  have h3 : (bits5.take k).length ≤ 5 := by rw [List.length_take]; exact Nat.min_le_right _ _
  have h4 : (ns.take j).length ≤ ns.length := by rw [List.length_take]; exact Nat.min_le_right _ _
  have h5 : (bits5.take k).length * ns.length ≤ 5 * 10 := Nat.mul_le_mul h3 hn
  omega
theorem outG_step (ns : List Nat) (W k j n : Nat) (hn : ns[j]? = some n) : outG ns W k (j + 1) = outG ns W k j ++ if W < bits5.getD k 0 ∧ n / bits5.getD k 0 % 2 = 1 then [((bits5.getD k 0 : Nat) : Int)] else [] := by
  unfold outG
  rw [List.take_add_one, hn]
  unfold grOf
  rw [List.filterMap_append, ← List.append_assoc, List.map_append]
  congr 1
  by_cases h : W < bits5.getD k 0 ∧ n / bits5.getD k 0 % 2 = 1
  · simp only [Option.toList_some, List.filterMap_cons, List.filterMap_nil]
    rw [if_pos h, if_pos h]; rfl
  · simp only [Option.toList_some, List.filterMap_cons, List.filterMap_nil]
    rw [if_neg h, if_neg h]; rfl
noncomputable def outM (f : Nat → Nat) (ns : List Nat) (k : Nat) : List Int := ((ns.take k).map f).map Int.ofNat
theorem outM_step (f : Nat → Nat) (ns : List Nat) (k n : Nat) (hn : ns[k]? = some n) : outM f ns (k + 1) = outM f ns k ++ [((f n : Nat) : Int)] := by
  unfold outM
  rw [List.take_add_one, hn]
  simp
theorem ivs_at {l : List (Int × Tok)} {ns : List Nat} (h : l.map (·.1) = ns.map Int.ofNat) {k : Nat} {v : Value} (hv : (ivs l)[k]? = some v) : ∃ (n : Nat) (t : Tok), ns[k]? = some n ∧ v = .int (n : Int) t := by
  rw [ivs, List.getElem?_map] at hv
  obtain ⟨⟨v0, t0⟩, hp, rfl⟩ := Option.map_eq_some_iff.mp hv
  have h2 : (l.map (·.1))[k]? = some v0 := by rw [List.getElem?_map, hp]; rfl
  rw [h, List.getElem?_map] at h2
  obtain ⟨n, hn, rfl⟩ := Option.map_eq_some_iff.mp h2
  exact ⟨n, t0, hn, rfl⟩

theorem bit5 {b : Nat} (h : b ∈ bits5) : 1 ≤ b ∧ b ≤ 16 := (by decide : ∀ b ∈ bits5, 1 ≤ b ∧ b ≤ 16) b h
theorem bits_at {k b : Nat} (h : bits5[k]? = some b) : bits5.getD k 0 = b := by rw [List.getD_eq_getElem?_getD, h]; rfl
theorem outG_all (ns : List Nat) (W : Nat) : outG ns W 5 0 = (greatOf ns W).map Int.ofNat := by
  unfold outG greatOf
  rw [show bits5.take 5 = bits5 from rfl, show grOf W (bits5.getD 5 0) (ns.take 0) = [] from rfl, List.append_nil]
theorem sum_small {ns : List Nat} {W n : Nat} {l : List (Int × Tok)} (h : l.map (·.1) = outM (· % (2 * W)) ns n) (hn : n = ns.length) : (l.map (·.1)).sum = ((smallOf ns W : Nat) : Int) := by
  rw [h, hn]
  unfold outM
  rw [List.take_length, sumN]
  rfl
theorem small_div {ns : List Nat} {W : Nat} (hn : ns.length ≤ 10) (hb : ∀ n ∈ ns, n < 32) : smallOf ns W / W ≤ 1000 := by
  have h3 : ∀ (l : List Nat), (∀ n ∈ l, n < 32) → (l.map (· % (2 * W))).sum ≤ 32 * l.length := by
    intro l
    induction l with
    | nil => intro _; simp
    | cons x r ih =>
      intro hx
      have h4 := ih fun n hn => hx n (List.mem_cons_of_mem _ hn)
      have h5 := hx x (List.mem_cons_self ..)
      have h6 := Nat.mod_le x (2 * W)
      simp only [List.map_cons, List.sum_cons, List.length_cons]
      omega
  exact Nat.le_trans (Nat.div_le_self _ _) (Nat.le_trans (h3 ns hb) (Nat.le_trans (Nat.mul_le_mul_left 32 hn) (by decide)))
theorem great_len {ns : List Nat} {W : Nat} (hn : ns.length ≤ 10) : ((greatOf ns W).map Int.ofNat).length ≤ 50 := by
  rw [List.length_map]
  exact Nat.le_trans (flat_len W ns bits5) (Nat.mul_le_mul (Nat.le_refl 5) hn)
theorem rest_len (a : Nat) : ((if 0 < a then [a] else []).map Int.ofNat).length ≤ 1 := by split <;> simp
theorem sizes_eq (ns : List Nat) (W : Nat) : (greatOf ns W).map Int.ofNat ++ List.replicate (smallOf ns W / W) (W : Int) ++ (if 0 < smallOf ns W % W then [smallOf ns W % W] else []).map Int.ofNat = (sizesOf ns W).map Int.ofNat := by
  unfold sizesOf
  rw [List.map_append, List.map_append, List.map_replicate]
  rfl
theorem two_w (W : Nat) : (2 : Int) * (W : Int) = ((2 * W : Nat) : Int) := by simp
theorem list_new {s : Shared} {xs : List Value} {v : Value} {Q : Value → Shared → Prop} {tk : Nat} (h : ∀ h', Step [] s.heap h' → h'.IsList s.heap.objs.size xs.toArray → Q v { s with heap := h', toks := tk }) : Q v { s with heap := s.heap.push (lstObj xs 0), toks := tk } := h _ (Step.push _ _) ⟨_, Heap.get?_push_size _ rfl, rfl, 0, rfl⟩
theorem int_lt {a b : Nat} (h : a < b) : decide ((a : Int) < (b : Int)) = true := decide_eq_true (Int.ofNat_lt.mpr h)
theorem int_nlt {a b : Nat} (h : ¬ a < b) : decide ((a : Int) < (b : Int)) = false := decide_eq_false fun z => h (Int.ofNat_lt.mp z)

section
variable {w : World} {A : Around} {R : Result → Shared → Prop} {s : Shared} {t : Tok}

theorem sizes_ct {D : Addr} {ns : List Nat} {W : Nat} (gx : Gx w s.heap) (lv : Lv 2 A) (hD : LI s.heap D (ns.map Int.ofNat)) (hn : ns.length ≤ 10) (hb : ∀ n ∈ ns, n < 32) (hW : 1 ≤ W ∧ W ≤ 64) (hDn : D ∉ tabs)
    (ret : ∀ s' N, Go tabs s s' → Gx w s'.heap → LI s'.heap N ((sizesOf ns W).map Int.ofNat) → s.heap.get? N = none → (240 : Nat) ≤ N → R (.ok (.ret (.ref N))) s') :
    codeAny (model Pg w) A (.call (.ref 227) ⟨[.ref D, .int W t], []⟩) R s := by
  have h1 := lv.room
  refine enterC (binds := [("numbers", .ref D), ("width", .int W t)]) gx.g lv.in_ (by k_is) rfl rfl (by kernel_rfl) (by kernel_rfl) rfl (fun n => by kernel_rfl) rfl rfl rfl rfl rfl fun L h₁ tk env he e n₁ c₁ st₁ hL => ?_
  refine gen fun T₀ E₀ hT₀ => ?_
  have hh : (A.deeper env).handled = none := lv.han
  have n₁' : h₁.Ns L (mp []) := by rw [he] at n₁; exact n₁
  have hcN : env.cells.lookup ("numbers" : Str) = some (L + 1) := by rw [he]; kernel_rfl
  have hcW : env.cells.lookup ("width" : Str) = some (L + 1 + 1) := by rw [he]; kernel_rfl
  have cN : h₁.IsCell (L + 1) (some (.ref D)) := by have := (c₁ _ _ hcN).1; rw [he] at this; exact this
  have cW : h₁.IsCell (L + 1 + 1) (some (.int W t)) := by have := (c₁ _ _ hcW).1; rw [he] at this; exact this
  have hL0 : s.heap.get? L = none := hL ▸ dead_size _
  have hL1 : (240 : Nat) ≤ L := hL ▸ gx.g.size
  have f := fn_in (w := w) (tk := tk) gx n₁' st₁ hL0 hL1
  have zN : Fz s L (L + 1) := ⟨dead3 _ (by rw [← hL]; exact Nat.le_succ _), Nat.succ_ne_self _, Nat.le_succ_of_le hL1⟩
  have zW : Fz s L (L + 1 + 1) := ⟨dead3 _ (by rw [← hL]; exact Nat.le_trans (Nat.le_succ _) (Nat.le_succ _)), Nat.ne_of_gt (Nat.lt_trans (Nat.lt_succ_self _) (Nat.lt_succ_self _)), Nat.le_succ_of_le (Nat.le_succ_of_le hL1)⟩
  obtain ⟨l0, il0, hl0⟩ := li_isList hD
  have hlen0 : (ivs l0).length = ns.length := by rw [ivs, List.length_map, ← List.length_map (·.1), hl0, List.length_map]
  have lift : ∀ s', Go tabs s s' → s'.heap.IsList D (ivs l0).toArray := fun s' go => il0.at fun o q => go.heap.keep _ _ hDn q
  have hW0 : (W : Int) ≠ 0 := by omega
  refine wpAny_execs_cons (compQ2A (s₀ := s) (l := []) (cl := [("width", L + 1 + 1), ("numbers", L + 1)]) (y := "great") (outG ns W) e hh (by rw [he]; kernel_rfl) (by decide) rfl (by decide) (by kernel_rfl) (by kernel_rfl) (by decide) (by rw [he]; kernel_rfl) (by kernel_rfl)
    (gen fun Y1 Z1 g1 => wpAny_List (wpAny_items_cons (wpAny_Constant_int (wpAny_items_cons (wpAny_Constant_int (wpAny_items_cons (wpAny_Constant_int (wpAny_items_cons (wpAny_Constant_int (wpAny_items_cons (wpAny_Constant_int (wpAny_items_nil ⟨(by first | exact Nat.le_of_ble_eq_true rfl | simp [sizeLine]), ?_⟩)))))))))))))
  refine list_new (Q := Y1) (s := { s with heap := h₁, toks := tk + 1 + 1 + 1 + 1 + 1 }) (tk := tk + 1 + 1 + 1 + 1 + 1) (xs := ivs [(16, tk), (8, tk + 1), (4, tk + 1 + 1), (2, tk + 1 + 1 + 1), (1, tk + 1 + 1 + 1 + 1)]) fun hD stD ilD => g1 _ _ ?_
  have f₂ := f.ext (tk := tk + 1 + 1 + 1 + 1 + 1) stD
  obtain ⟨lb, hlb, ilB⟩ : ∃ lb : List (Int × Tok), lb.map (·.1) = bits5.map Int.ofNat ∧ hD.IsList h₁.objs.size (ivs lb).toArray := ⟨_, rfl, ilD⟩
  clear ilD
  have hb5 : (ivs lb).length = 5 := by rw [ivs, List.length_map, ← List.length_map (·.1), hlb]; rfl
  have cW := cell_step cW stD nil1
  have cN := cell_step cN stD nil1
  refine ⟨h₁.objs.size, D, ivs lb, ivs l0, rfl, ilB, lift _ f₂.go, rfl, ?_, fun k j => outG_few ns W k j hn, f₂, ?_, ?_, ?_⟩
  · intro k
    rw [hlen0]
    exact outG_next ns W k
  · intro s₃ C E' go f₃
    exact rCel (compEn e rfl) (by kernel_rfl) (cell_step cN go.heap nil1) ⟨s₃.toks, rfl, rfl⟩ (by rw [he]; kernel_rfl)
  · intro k j v1 v2 s₃ m C E' hv1 hv2 go f₃ hns hm1 hm2
    have cw := cell_step cW go.heap nil1
    obtain ⟨b, t1, hb1, e1⟩ := ivs_at hlb hv1
    obtain ⟨n, t2, hn2, e2⟩ := ivs_at hl0 hv2
    rw [e1] at hm1
    rw [e2] at hm2
    have hb16 := bit5 (List.mem_of_getElem? hb1)
    have hn32 := hb n (List.mem_of_getElem? hn2)
    have ho := outG_step ns W k j n hn2
    rw [bits_at hb1] at ho
    refine wpAny_tests_one (gen fun Y Z g => wpAny_isTrue_BoolOp (wpAny_allTrue_And_cons (wpAny_isTrue_Compare1 (nLoc (compEn e rfl) hns hm1 (rCel (compEn e rfl) (by kernel_rfl) cw (PyProof.Rows.gt_int (wpAny_truthy_bool ?_)) (by rw [he]; kernel_rfl)) (by rw [he]; kernel_rfl)))))
    by_cases hwb : W < b
    · rw [int_lt hwb]
      refine if_tt (wpAny_allTrue_And_cons (wpAny_isTrue_Compare1 (wpAny_BinOp (wpAny_BinOp (nLoc (compEn e rfl) hns hm2 (nLoc (compEn e rfl) hns hm1 (floordiv_int (by omega) ?_ (.inl (PyProof.noPylong_small (by first | exact nat_abs hW.2 (by decide) | omega)))) (by rw [he]; kernel_rfl)) (by rw [he]; kernel_rfl))))))
      refine wpAny_Constant_int (PyProof.Rows.mod_int (by decide) (wpAny_Constant_int (PyProof.Rows.eq_int (wpAny_truthy_bool ?_))))
      rw [fdivN, show ((n / b : Nat) : Int).fmod 2 = ((n / b % 2 : Nat) : Int) from fmodN _ 2]
      by_cases hbit : n / b % 2 = 1
      · rw [hbit, show (((1 : Nat) : Int) == 1) = true by decide]
        refine if_tt (wpAny_allTrue_And_nil (g _ _ ⟨_, rfl, if_tt ?_⟩))
        rw [if_pos ⟨hwb, hbit⟩] at ho
        exact nLoc (compEn e rfl) (s := { s₃ with toks := _ }) hns hm1 ⟨_, t1, _, rfl, rfl, ho⟩ (by rw [he]; kernel_rfl)
      · have hbit0 : n / b % 2 = 0 := by omega
        rw [hbit0, show (((0 : Nat) : Int) == 1) = false by decide]
        rw [if_neg (fun z => hbit z.2), List.append_nil] at ho
        exact if_ff (g _ _ ⟨_, rfl, if_ff ho⟩)
    · rw [int_nlt hwb]
      rw [if_neg (fun z => hwb z.1), List.append_nil] at ho
      exact if_ff (g _ _ ⟨s₃.toks, rfl, if_ff ho⟩)
  · intro s₃ N f₃ st₃ li₃ zG dG
    have cW₃ := cell_step cW st₃ (one1 zW.ne)
    have cN₃ := cell_step cN st₃ (one1 zN.ne)
    rw [hb5, outG_all] at li₃
    -- small = sum([..])
    refine wpAny_execs_cons (wpAny_Assign_Name (rCall (rBui e f₃.gx.g (v := .builtin "sum") (by kernel_rfl) (rArgs (P := fun _ => True) (fun h q => keep_bui h q) (wpAny_items_cons
      (compQ (cl := [("width", L + 1 + 1)]) (outM (· % (2 * W)) ns) hh (by rw [he]; kernel_rfl) (by decide) rfl (by decide) (by kernel_rfl) (rCel e hcN cN₃ ⟨D, ivs l0, rfl, lift _ f₃.go, by omega, rfl, ?_, ?_⟩)))))))
    · intro k v s₄ m C E' hv go hns hm
      obtain ⟨n, t2, hn2, en⟩ := ivs_at hl0 hv
      rw [en] at hm
      have cw := cell_step cW₃ go.heap nil1
      refine wpAny_tests_nil ⟨s₄.toks, rfl, if_tt (gen fun Y Z g => wpAny_BinOp (nLoc (compEn e rfl) hns hm (wpAny_BinOp (wpAny_Constant_int (rCel (s := { s₄ with toks := _ }) (compEn e rfl) (by kernel_rfl) cw (mul_int ?_ (IntMulOk.of_left (intBits_le_64 (by omega) (by omega)))) (by rw [he]; kernel_rfl)))) (by rw [he]; kernel_rfl)))⟩
      refine PyProof.Rows.mod_int (by omega) (g _ _ ⟨_, _, _, rfl, rfl, ?_⟩)
      rw [outM_step _ ns k n hn2, two_w, fmodN]
    · intro s₄ go₄ li₄
      have f₄ := f₃.call go₄ (f₃.gx.step go₄.heap (by first | exact nilT | exact nil1 | k_mem | simp)) (by first | exact nilT | exact nil1 | k_mem | simp)
      obtain ⟨l4, il4, hl4⟩ := li_isList li₄
      refine wpAny_items_nil ⟨trivial, sum_li hh il4 fun h₅ tk₅ t₅ st₅ => ?_⟩
      rw [sum_small hl4 hlen0]
      have f₅ := f₄.ext (tk := tk₅) st₅
      refine fSto f₅ e fun s₆ f₆ st₆ => ?_
      have b₆ : Step [L] s₃.heap s₆.heap := ((go₄.heap.mono (W' := [L]) (by first | exact nilT | exact nil1 | k_mem | simp)).thn st₅ (by first | exact nilT | exact nil1 | k_mem | simp)).thn st₆ (fun b hb => .inl hb)
      have cW₆ := cell_step cW₃ b₆ (by first | exact one1 (zW.ne) | simpa using zW.ne)
      have li₆ := li_step li₃ b₆ (by first | exact one1 (zG.ne) | simpa using zG.ne)
      -- rest
      refine wpAny_execs_cons (wpAny_Assign_Name ?_)
      refine wpAny_mono (?_ : wpAny _ _ _ (fun v s₇ => ∃ N2, v = Value.ref N2 ∧ Fn w s L (("small", .int ((smallOf ns W : Nat) : Int) t₅) :: ("great", .ref N) :: []) s₇ ∧ Step [] s₆.heap s₇.heap ∧ LI s₇.heap N2 ((if 0 < smallOf ns W % W then [smallOf ns W % W] else []).map Int.ofNat) ∧ Fz s L N2) _ _) (fun v s₇ h₇ => ?_) (fun _ _ z => z)
      · refine gen fun Y Z g => wpAny_IfExp (wpAny_isTrue_Compare1 (wpAny_BinOp (rLcl e f₆.ns lk_here (rCel e hcW cW₆ (PyProof.Rows.mod_int hW0 (wpAny_Constant_int (PyProof.Rows.gt_int (wpAny_truthy_bool ?_))))))))
        rw [fmodN]
        by_cases hr : 0 < smallOf ns W % W
        · rw [show decide ((0 : Int) < ((smallOf ns W % W : Nat) : Int)) = true from int_lt hr]
          refine if_tt (wpAny_List (wpAny_items_cons (wpAny_BinOp (rLcl e (f₆.tk (tk := _)).ns lk_here (rCel (s := { s₆ with toks := _ }) e hcW cW₆ (PyProof.Rows.mod_int hW0 (wpAny_items_nil ⟨(by first | exact Nat.le_of_ble_eq_true rfl | simp [sizeLine]), ?_⟩)))))))
          rw [fmodN]
          exact g _ _ ⟨_, rfl, f₆.ext (Step.push _ _), Step.push _ _, ⟨[(_, _)], 0, Heap.get?_push_size _ rfl, by rw [if_pos hr]; rfl⟩, f₆.fz⟩
        · rw [show decide ((0 : Int) < ((smallOf ns W % W : Nat) : Int)) = false from int_nlt hr]
          refine if_ff (wpAny_List (wpAny_items_nil ⟨(by first | exact Nat.le_of_ble_eq_true rfl | simp [sizeLine]), ?_⟩))
          exact g _ _ ⟨_, rfl, f₆.ext (Step.push _ _), Step.push _ _, ⟨[], 0, Heap.get?_push_size _ rfl, by rw [if_neg hr]; rfl⟩, f₆.fz⟩
      · obtain ⟨N2, eN2, f₇, st₇, li₇, z₇⟩ := h₇
        rw [eN2]
        refine fSto f₇ e fun s₈ f₈ st₈ => ?_
        have b₈ : Step [L] s₆.heap s₈.heap := (st₇.mono (W' := [L]) (by first | exact nilT | exact nil1 | k_mem | simp)).thn st₈ (fun b hb => .inl hb)
        have cW₈ := cell_step cW₆ b₈ (by first | exact one1 (zW.ne) | simpa using zW.ne)
        have li₈ := li_step li₆ b₈ (by first | exact one1 (zG.ne) | simpa using zG.ne)
        have lr₈ := li_step li₇ st₈ (by first | exact one1 (z₇.ne) | simpa using z₇.ne)
        have hq : smallOf ns W / W ≤ 1000 := small_div hn hb
        have hg := great_len (W := W) hn
        have hr1 := rest_len (smallOf ns W % W)
        refine wpAny_execs_cons (wpAny_Return_some (wpAny_BinOp (wpAny_BinOp (rLcl e f₈.ns (lk_skip (lk_skip lk_here)) (wpAny_BinOp (wpAny_List (wpAny_items_cons (rCel e hcW cW₈ (wpAny_items_nil ⟨(by first | exact Nat.le_of_ble_eq_true rfl | simp [sizeLine]), ?_⟩))))))))) 
        have st₉ := Step.push s₈.heap (lstObj [Value.int (W : Int) t] 0)
        have f₉ := f₈.ext (tk := s₈.toks) st₉
        refine wpAny_BinOp (rLcl e f₉.ns (lk_skip lk_here) (rCel e hcW (cell_step cW₈ st₉ (by first | exact nilT | exact nil1 | k_mem | simp)) (floordiv_int hW0 ?_ (.inl (PyProof.noPylong_small (by first | exact nat_abs hW.2 (by decide) | omega))))))
        rw [fdivN]
        refine li_mul (v := W) ⟨[(_, _)], 0, Heap.get?_push_size _ rfl, rfl⟩ (by (first | with_reducible exact Nat.le_trans (by assumption) (by decide) | omega)) fun hA liA stA => ?_
        have fA := f₉.ext (tk := s₈.toks + 1) stA
        have bA := st₉.thn stA (by first | exact nilT | exact nil1 | k_mem | simp)
        refine li_add (li_step li₈ bA (by first | exact nilT | exact nil1 | k_mem | simp)) liA (by rw [List.length_replicate]; omega) fun hB liB stB => ?_
        have fB := fA.ext (tk := s₈.toks + 1) stB
        have bB := bA.thn stB (by first | exact nilT | exact nil1 | k_mem | simp)
        refine rLcl e fB.ns lk_here (li_add liB (li_step lr₈ bB (by first | exact nilT | exact nil1 | k_mem | simp)) (by rw [List.length_append, List.length_replicate]; exact Nat.le_trans (Nat.add_le_add (Nat.add_le_add hg hq) hr1) (by decide)) fun hC liC stC => ?_)
        have fC := fB.ext (tk := s₈.toks + 1) stC
        exact hT₀ _ _ (ret _ _ fC.go fC.gx (sizes_eq ns W ▸ liC) fB.fz.dead fB.fz.hi)
end
end Mine.Internal
end

section
open PySem PySem.W PyProof.Rows PySem.Calls Builtin Builtin.Str
set_option maxRecDepth 100000
set_option maxHeartbeats 4000000
set_option linter.unusedVariables false
namespace Mine.Internal

section
variable {w : World} {A : Around} {E : Value → Shared → Prop} {s : Shared}

theorem take_li {S : Addr} {xs : List (Int × Tok)} {value slice : Expr} {u : Tok} {Q : Value → Shared → Prop} (il : s.heap.IsList S (ivs xs).toArray) (hz : xs.length ≤ 10000)
    (h : ∀ h', LI h' (s.heap.objs.size + 1) ((xs.map (·.1)).take 3) → Step [] s.heap h' → Q (.ref (s.heap.objs.size + 1)) { s with heap := h' })
    (hs : subscripted slice false (.ref S) (.ref s.heap.objs.size) = operate [.ref s.heap.objs.size, .ref S] (getItem (.ref S) (.ref s.heap.objs.size)) := by with_unfolding_all rfl)
    (ht : ∀ r, letTemporaryGo value (.ref S) r = pure () := by intro _; with_unfolding_all rfl) :
    wpAny (model Pg w) A (subscriptTail value slice (.ref S) (.ref s.heap.objs.size)) Q E { s with heap := s.heap.push { cls := .type "slice", data := .fields #[.none, .int 3 u, .none] } } := by
  refine subscriptTail_ops (Heap.IsList.typeIs (s := { s with heap := s.heap.push { cls := .type "slice", data := .fields #[.none, .int 3 u, .none] } }) (il.push _)) list_getitem_lookup
    (wpAny_getItem_list_slice (il.push _) (Heap.IsSliceOf.new ..) .none (.int 3 u) .none (by first | exact nilT | exact nil1 | k_mem | simp) ?_ (by simp [sizeLine]; (first | with_reducible exact Nat.le_trans (by assumption) (by decide) | omega))) hs ht
  rw [show (Value.ref ({ s with heap := s.heap.push { cls := .type "slice", data := .fields #[.none, .int 3 u, .none] } } : Shared).heap.objs.size) = .ref (s.heap.objs.size + 1) by show Value.ref (s.heap.push _).objs.size = _; rw [Heap.size_push]]
  refine h _ ⟨xs.take 3, 0, ?_, by rw [List.map_take]⟩ (Step.two (o1 := _) (o2 := _))
  have e : slicePick (ivs xs).toArray none (some 3) none = (ivs (xs.take 3)).toArray := by
    have := slicePick_upto' (ivs xs).toArray 3
    rw [show ((3 : Nat) : Int) = 3 from rfl] at this
    rw [this]
    simp
  rw [e]
  have := Heap.get?_push_size (s.heap.push { cls := .type "slice", data := .fields #[.none, .int 3 u, .none] }) (o := { cls := .type "list", data := .seq (ivs (xs.take 3)).toArray }) rfl
  rwa [Heap.size_push] at this

theorem ne_li {D1 D2 : Addr} {ns : List Int} {Q : Value → Shared → Prop} (a : LI s.heap D1 ns) (b : LI s.heap D2 ns) (lv : Lv 1 A) (h : Q (.bool false) s) : wpAny (model Pg w) A (compareOp .NotEq (.ref D1) (.ref D2)) Q E s := by
  obtain ⟨l1, i1, r1⟩ := li_isList a
  obtain ⟨l2, i2, r2⟩ := li_isList b
  have hl : l1.length = l2.length := by
    have h1 := congrArg List.length r1
    have h2 := congrArg List.length r2
    simp only [List.length_map] at h1 h2
    omega
  have hu := lv.line
  have R := SeqAt.RcNeAt.lists (A := A) (s := s) (e := fun _ => true) i1 i2 (by simp [hl]) (by (first | with_reducible exact om_lt (by assumption) | omega)) (fun j h1 h2 => ?_)
  · show wpAny _ A (richCompare .NotEq _ _) Q E s
    refine R Pg w E Q ?_
    have e : (List.range (ivs l1).toArray.size).all (fun _ => true) = true := List.all_eq_true.mpr fun _ _ => rfl
    rw [e]
    exact h
  · have e1 : j < l1.length := by simpa using h1
    have e2 : j < l2.length := by simpa using h2
    have g1 : (ivs l1).toArray[j]'h1 = Value.int (l1[j]'e1).1 (l1[j]'e1).2 := by simp
    have g2 : (ivs l2).toArray[j]'h2 = Value.int (l2[j]'e2).1 (l2[j]'e2).2 := by simp
    rw [g1, g2]
    have : (l1[j]'e1).1 = (l2[j]'e2).1 := by
      have q : (l1.map (·.1))[j]? = (l2.map (·.1))[j]? := by rw [r1, r2]
      rw [List.getElem?_map, List.getElem?_map, List.getElem?_eq_getElem e1, List.getElem?_eq_getElem e2] at q
      simpa using q
    rw [this]
    have := SeqAt.EqAt.int_int (A := A.in1) (s := s) (l2[j]'e2).1 (l1[j]'e1).2 (l2[j]'e2).1 (l2[j]'e2).2
    rwa [beq_self_eq_true] at this
theorem ls_strs {D : Addr} {ls : List Str} (a : LsAt s.heap D ls) : ∃ items : Array Value, s.heap.IsList D items ∧ StrsAre items.toList ls := ls_isList a
end

noncomputable def numsOf3 (xs : List (Int × Tok)) : List Nat := [13, 5] ++ ((xs.map (·.1)).take 3).map fun x => (x.fmod 32).toNat
noncomputable def rowsT (m W : Nat) (ns : List Nat) : List Str := (rowsOf ((m + 1) * W : Nat) m (wordsOf m ns)).map (Txt.join (gp m))
noncomputable def lensOf (m : Nat) (ns : List Nat) (W : Nat) : List Nat := (sizesOf ns W).map fun z => (m + 1) * z
noncomputable def fullOf (m : Nat) (ns : List Nat) (W : Nat) : Nat := ((lensOf m ns W).filter (· == (m + 1) * W)).length
noncomputable def onesOf (ns : List Nat) (W : Nat) : Nat := (ns.filter fun n => n / W % 2 == 1).length
noncomputable def places7 : List Nat := [6, 5, 4, 3, 2, 1, 0]
noncomputable def oddsTo (m : Nat) (ns : List Nat) (k : Nat) : List Nat := (places7.take k).filter fun p => fullOf m ns (2 ^ p) % 2 == 1
noncomputable def carriesTo (m : Nat) (ns : List Nat) (k : Nat) : Int := ((places7.take k).map fun p => (fullOf m ns (2 ^ p) : Int) - (onesOf ns (2 ^ p) : Int)).sum

structure Plain (m : Nat) (ns : List Nat) : Prop where
  gw : ∀ x ∈ wordsOf m ns, Gw x
  ne : wordsOf m ns ≠ []
  few : (wordsOf m ns).length ≤ 40
  wsum : ((wordsOf m ns).map (·.length)).sum + (wordsOf m ns).length ≤ 1048576
  rsum : ∀ p, p ≤ 6 → ((rowsT m (2 ^ p) ns).map (·.length)).sum + (rowsT m (2 ^ p) ns).length ≤ 10000
  join : ∀ p, p ≤ 6 → Txt.join (gp m) (rowsT m (2 ^ p) ns) = Txt.join (gp m) (wordsOf m ns)
  lens : ∀ p, p ≤ 6 → (rowsT m (2 ^ p) ns).map (fun r => r.length + m) = lensOf m ns (2 ^ p)
  total : 0 < ns.sum ∧ ns.sum < 200
  places : placesOf ns.sum = oddsTo m ns 7
  single : (Builtin.bitAnd (ns.sum : Int) ((ns.sum : Int) - 1) == 0) = (((oddsTo m ns 7).length : Int) == 1)
  kummer : ((Builtin.Int.intBits (Builtin.bitXor (waysOf ns : Int) ((waysOf ns : Int) - 1)) : Nat) - 1 : Int) = carriesTo m ns 7
end Mine.Internal
end

section
open PySem PySem.W PyProof.Rows PySem.Calls Builtin Builtin.Str
set_option maxRecDepth 100000
set_option maxHeartbeats 4000000
set_option linter.unusedVariables false
namespace Mine.Internal

theorem ivs_any {l : List (Int × Tok)} {ns : List Int} (h : l.map (·.1) = ns) {k : Nat} {v : Value} (hv : (ivs l)[k]? = some v) : ∃ (n : Int) (t : Tok), ns[k]? = some n ∧ v = .int n t := by
  rw [ivs, List.getElem?_map] at hv
  obtain ⟨⟨v0, t0⟩, hp, rfl⟩ := Option.map_eq_some_iff.mp hv
  exact ⟨v0, t0, by rw [← h, List.getElem?_map, hp]; rfl, rfl⟩
theorem toNat_fmod (x : Int) : x.fmod 32 = ((x.fmod 32).toNat : Int) := by
  rw [Int.toNat_of_nonneg]
  rw [Int.fmod_eq_emod_of_nonneg _ (by decide)]
  exact Int.emod_nonneg _ (by decide)
theorem outM_len (f : Nat → Nat) (ns : List Nat) : outM f ns ns.length = (ns.map f).map Int.ofNat := by unfold outM; rw [List.take_length]

noncomputable def outD (dr : List Int) (k : Nat) : List Int := ((dr.take k).map fun x => (x.fmod 32).toNat).map Int.ofNat
theorem outD_step (dr : List Int) (k : Nat) (n : Int) (hn : dr[k]? = some n) : outD dr (k + 1) = outD dr k ++ [(((n.fmod 32).toNat : Nat) : Int)] := by
  unfold outD
  rw [List.take_add_one, hn]
  simp
structure LJ (m : Nat) (ns : List Nat) (L N W O : Addr) (tg tm : Tok) (k : Nat) (l : List (Str × Value)) (h : Heap) : Prop where
  gap : l.lookup ("gap" : Str) = some (.str (gp m) tg)
  numbers : l.lookup ("numbers" : Str) = some (.ref N)
  words : l.lookup ("words" : Str) = some (.ref W)
  odd : l.lookup ("odd" : Str) = some (.ref O)
  carries : ∃ tc, l.lookup ("carries" : Str) = some (.int (carriesTo m ns k) tc)
  cm : h.IsCell (L + 1) (some (.int m tm))
  cw : ∃ v, h.IsCell (L + 1 + 1) v
  li : LI h N (ns.map Int.ofNat)
  ls : LsAt h W (wordsOf m ns)
  od : LI h O ((oddsTo m ns k).map Int.ofNat)
theorem LJ.step {m : Nat} {ns : List Nat} {L N W O : Addr} {tg tm : Tok} {k : Nat} {l : List (Str × Value)} {h h' : Heap} {X : List Addr} (j : LJ m ns L N W O tg tm k l h) (st : Step X h h')
    (h1 : L + 1 ∉ X) (h2 : L + 1 + 1 ∉ X) (h3 : N ∉ X) (h4 : W ∉ X) (h5 : O ∉ X) : LJ m ns L N W O tg tm k l h' :=
  ⟨j.gap, j.numbers, j.words, j.odd, j.carries, cell_step j.cm st h1, let ⟨v, c⟩ := j.cw; ⟨v, cell_step c st h2⟩, li_step j.li st h3, ls_step j.ls st h4, li_step j.od st h5⟩
noncomputable abbrev wr (L : Addr) : List Addr := [140, 147, L, L + 1 + 1]
theorem nwr {s₀ : Shared} {L b : Addr} (z : Fz s₀ L b) (h : b ≠ L + 1 + 1) : b ∉ wr L := by
  simp only [wr, List.mem_cons, List.not_mem_nil, or_false, not_or]
  exact ⟨ne240 z.hi (by decide), ne240 z.hi (by decide), z.ne, h⟩
theorem tabs_wr {L : Addr} {h : Heap} : ∀ x ∈ tabs, x ∈ wr L ∨ h.get? x = none := fun x hx => .inl (by
  simp only [tabs, wr, List.mem_cons, List.not_mem_nil, or_false] at hx ⊢
  rcases hx with h | h
  · exact .inl h
  · exact .inr (.inl h))
theorem L_wr {L : Addr} {h : Heap} : ∀ x ∈ [L], x ∈ wr L ∨ h.get? x = none := fun x hx => .inl (by
  simp only [wr, List.mem_cons, List.not_mem_nil, or_false] at hx ⊢
  exact .inr (.inr (.inl hx)))
theorem W_wr {L : Addr} {h : Heap} : ∀ x ∈ [L + 1 + 1], x ∈ wr L ∨ h.get? x = none := fun x hx => .inl (by
  simp only [wr, List.mem_cons, List.not_mem_nil, or_false] at hx ⊢
  exact .inr (.inr (.inr hx)))
noncomputable def outR (rows : List Str) (m k : Nat) : List Int := ((rows.take k).map fun r => r.length + m).map Int.ofNat
theorem outR_step (rows : List Str) (m k : Nat) (r : Str) (hn : rows[k]? = some r) : outR rows m (k + 1) = outR rows m k ++ [((r.length + m : Nat) : Int)] := by
  unfold outR
  rw [List.take_add_one, hn]
  simp
theorem strs_at {l : List (Str × Tok)} {rows : List Str} (h : l.map (·.1) = rows) {k : Nat} {v : Value} (hv : (strValues l)[k]? = some v) : ∃ (r : Str) (t : Tok), rows[k]? = some r ∧ v = .str r t := by
  rw [strValues, List.getElem?_map] at hv
  obtain ⟨⟨v0, t0⟩, hp, rfl⟩ := Option.map_eq_some_iff.mp hv
  exact ⟨v0, t0, by rw [← h, List.getElem?_map, hp]; rfl, rfl⟩
theorem le_sumN {x : Nat} : ∀ {l : List Nat}, x ∈ l → x ≤ l.sum
  | y :: l, h => by
    rw [List.sum_cons]
    rcases List.mem_cons.mp h with rfl | h
    · omega
    · have := le_sumN h
      omega
noncomputable def outP (p : Nat → Bool) (ns : List Nat) (k : Nat) : List Int := ((ns.take k).filter p).map Int.ofNat
theorem outP_step (p : Nat → Bool) (ns : List Nat) (k n : Nat) (hn : ns[k]? = some n) : outP p ns (k + 1) = outP p ns k ++ if p n = true then [((n : Nat) : Int)] else [] := by
  unfold outP
  rw [List.take_add_one, hn, List.filter_append, List.map_append]
  congr 1
  by_cases h : p n = true
  · rw [if_pos h]; simp [h]
  · rw [if_neg h]; simp [h]
theorem oddsTo_step (m : Nat) (ns : List Nat) (k p : Nat) (hp : places7[k]? = some p) : oddsTo m ns (k + 1) = oddsTo m ns k ++ if fullOf m ns (2 ^ p) % 2 = 1 then [p] else [] := by
  unfold oddsTo
  rw [List.take_add_one, hp, List.filter_append]
  congr 1
  by_cases h : fullOf m ns (2 ^ p) % 2 = 1
  · rw [if_pos h]; simp [h]
  · rw [if_neg h]; simp [h]
theorem carriesTo_step (m : Nat) (ns : List Nat) (k p : Nat) (hp : places7[k]? = some p) : carriesTo m ns (k + 1) = carriesTo m ns k + ((fullOf m ns (2 ^ p) : Int) - (onesOf ns (2 ^ p) : Int)) := by
  unfold carriesTo
  rw [List.take_add_one, hp, List.map_append, List.sum_append]
  simp
theorem oddsTo_len (m : Nat) (ns : List Nat) (k : Nat) : (oddsTo m ns k).length ≤ 7 := by
  unfold oddsTo
  refine Nat.le_trans (List.length_filter_le _ _) ?_
  rw [List.length_take]
  exact Nat.min_le_right _ _
theorem margin_ex (x : Int) : ∃ m : Nat, (1 ≤ m ∧ m ≤ 3) ∧ 1 + x.fmod 3 = (m : Int) := by
  have h2 := Int.fmod_eq_emod_of_nonneg x (show (0 : Int) ≤ 3 by decide)
  have h3 := Int.emod_nonneg x (show (3 : Int) ≠ 0 by decide)
  have h4 := Int.emod_lt_of_pos x (show (0 : Int) < 3 by decide)
  exact ⟨(1 + x.fmod 3).toNat, by omega, by omega⟩

theorem ivs_len {l : List (Int × Tok)} {xs : List Nat} (h : l.map (·.1) = xs.map Int.ofNat) : (ivs l).length = xs.length := by rw [ivs, List.length_map, ← List.length_map (·.1), h, List.length_map]
theorem outP_all {p : Nat → Bool} {l : List (Int × Tok)} {xs : List Nat} (h : l.map (·.1) = xs.map Int.ofNat) : outP p xs (ivs l).length = (xs.filter p).map Int.ofNat := by
  unfold outP
  rw [ivs_len h, List.take_length]
theorem outP_tt {p : Nat → Bool} {xs : List Nat} {q z : Nat} (hz : xs[q]? = some z) (hp : p z = true) : outP p xs (q + 1) = outP p xs q ++ [(z : Int)] := by rw [outP_step _ _ q z hz, if_pos hp]
theorem outP_ff {p : Nat → Bool} {xs : List Nat} {q z : Nat} (hz : xs[q]? = some z) (hp : p z = false) : outP p xs (q + 1) = outP p xs q := by rw [outP_step _ _ q z hz, hp, if_neg (by decide), List.append_nil]
theorem outM_all {f : Nat → Nat} {l : List (Int × Tok)} {xs : List Nat} (h : l.map (·.1) = xs.map Int.ofNat) : outM f xs (ivs l).length = (xs.map f).map Int.ofNat := by
  unfold outM
  rw [ivs_len h, List.take_length]
theorem outR_all {l : List (Str × Tok)} {rows : List Str} {m : Nat} (h : l.map (·.1) = rows) : outR rows m (strValues l).length = (rows.map fun r => r.length + m).map Int.ofNat := by
  unfold outR
  rw [strValues, List.length_map, ← List.length_map (·.1), h, List.take_length]
theorem mw_eq (m v : Nat) : ((m : Int) + 1) * ((v : Nat) : Int) = (((m + 1) * v : Nat) : Int) := by simp
theorem fmod2 (a : Nat) : ((a : Nat) : Int).fmod 2 = ((a % 2 : Nat) : Int) := fmodN _ 2
theorem eqN {a b : Nat} : (((a : Nat) : Int) == ((b : Nat) : Int)) = (a == b) := by rw [Bool.eq_iff_iff, beq_iff_eq, beq_iff_eq]; exact ⟨fun h => Int.ofNat.inj h, fun h => by rw [h]⟩
theorem eqN1 {a : Nat} : (((a : Nat) : Int) == 1) = (a == 1) := eqN (b := 1)
theorem Fn.gen {w : World} {s₀ s : Shared} {L : Addr} {l : List (Str × Value)} {Q : Prop} (f : Fn w s₀ L l s) (h : ∀ lc, lc = l → Fn w s₀ L lc s → Q) : Q := h l rfl f
structure OE (w : World) (s s' : Shared) (L O : Addr) (lc : List (Str × Value)) (os : List Int) (V : Nat) (tw : Tok) (fl : Flow) (s₂ : Shared) : Prop where
  e : fl = Flow.next
  f : Fn w s L lc s₂
  b : Step (O :: wr L) s'.heap s₂.heap
  lo : LI s₂.heap O os
  cw : s₂.heap.IsCell (L + 1 + 1) (some (.int (V : Int) tw))
theorem cell_ne {h : Heap} {a b : Addr} {v : Option Value} (c : h.IsCell a v) (d : h.get? b = none) : b ≠ a := by obtain ⟨o, q, _⟩ := c; exact Ne.symm (alive_ne q d)
theorem li_ne {h : Heap} {a b : Addr} {xs : List Int} (c : LI h a xs) (d : h.get? b = none) : b ≠ a := by obtain ⟨_, _, q, _⟩ := c; exact Ne.symm (alive_ne q d)
theorem ls_ne {h : Heap} {a b : Addr} {xs : List Str} (c : LsAt h a xs) (d : h.get? b = none) : b ≠ a := by obtain ⟨_, _, q, _⟩ := c; exact Ne.symm (alive_ne q d)
theorem li_cps {h : Heap} {D : Addr} {ns : List Int} {Q : Prop} (n : LI h D ns) (k : ∀ l, h.IsList D (ivs l).toArray → l.map (·.1) = ns → Q) : Q := let ⟨l, a, e⟩ := li_isList n; k l a e
theorem ls_cps {s : Shared} {D : Addr} {ls : List Str} {Q : Prop} (n : LsAt s.heap D ls) (k : ∀ l, s.heap.IsList D (strValues l).toArray → l.map (·.1) = ls → Q) : Q := let ⟨l, n, e, h⟩ := n; k l ⟨_, e, rfl, n, rfl⟩ h
section
variable {w : World} {A : Around} {R : Result → Shared → Prop} {s : Shared} {t : Tok}

theorem law_ct {S : Addr} {xs : List (Int × Tok)} (gx : Gx w s.heap) (lv : Lv 12 A) (hS : s.heap.IsList S (ivs xs).toArray) (hSn : S ∉ tabs) (hx : xs.length ≤ 100)
    (hp : ∀ m, 1 ≤ m → m ≤ 3 → Plain m (numsOf3 xs)) (ret : ∀ s', Go tabs s s' → Gx w s'.heap → R (.ok (.ret (.bool true))) s') : codeAny (model Pg w) A (.call (.ref 239) ⟨[.ref S], []⟩) R s := by
  have h1 := lv.room
  refine enterC (binds := [("script", .ref S)]) gx.g lv.in_ (by k_is) rfl rfl (by kernel_rfl) (by kernel_rfl) rfl (fun n => by kernel_rfl) rfl rfl rfl rfl rfl fun L h₁ tk env he e n₁ c₁ st₁ hL => ?_
  refine gen fun T₀ E₀ hT₀ => ?_
  have hh : (A.deeper env).handled = none := lv.han
  have lv11 : Lv 11 (A.deeper env) := lv.down (by rw [he]; show A.depth + 1 ≤ _; omega) (by rw [he]; show A.units + 3 ≤ _; omega)
  have lv' : ∀ k, k ≤ 11 → Lv k (A.deeper env) := fun k hk => lv11.less hk
  have n₁' : h₁.Ns L (mp [("script", .ref S)]) := by rw [he] at n₁; rw [← mp_set]; exact n₁
  have hcM : env.cells.lookup ("margin" : Str) = some (L + 1) := by rw [he]; kernel_rfl
  have hcW : env.cells.lookup ("width" : Str) = some (L + 1 + 1) := by rw [he]; kernel_rfl
  have cM : h₁.IsCell (L + 1) none := by have := (c₁ _ _ hcM).1; rw [he] at this; exact this
  have cW : h₁.IsCell (L + 1 + 1) none := by have := (c₁ _ _ hcW).1; rw [he] at this; exact this
  have hL0 : s.heap.get? L = none := hL ▸ dead_size _
  have hL1 : (240 : Nat) ≤ L := hL ▸ gx.g.size
  have f := fn_in (w := w) (tk := tk) gx n₁' st₁ hL0 hL1
  have zM : Fz s L (L + 1) := ⟨dead3 _ (by rw [← hL]; exact Nat.le_succ _), Nat.succ_ne_self _, Nat.le_succ_of_le hL1⟩
  have zW : Fz s L (L + 1 + 1) := ⟨dead3 _ (by rw [← hL]; exact Nat.le_trans (Nat.le_succ _) (Nat.le_succ _)), Nat.ne_of_gt (Nat.lt_trans (Nat.lt_succ_self _) (Nat.lt_succ_self _)), Nat.le_succ_of_le (Nat.le_succ_of_le hL1)⟩
  have nMW : L + 1 ≠ L + 1 + 1 := Nat.ne_of_lt (Nat.lt_succ_self _)
  have lift : ∀ s', Go tabs s s' → s'.heap.IsList S (ivs xs).toArray := fun s' go => hS.at fun o q => go.heap.keep _ _ hSn q
  -- drawn = script[:3]
  refine wpAny_execs_cons (gen fun Y1 Z1 g1 => wpAny_Assign_Name (Subscript_ (rLcl e f.ns (v := .ref S) (by kernel_rfl) (wpAny_Slice (evalPart_n (evalPart_s (wpAny_Constant_int (evalPart_n ?_))))))))
  refine take_li (s := { s with heap := h₁, toks := tk + 1 }) (lift _ f.tk.go) (by (first | with_reducible exact Nat.le_trans (by assumption) (by decide) | omega)) fun h₂ liD₂ st₂ => ?_
  have f₂ := f.ext (tk := tk + 1) st₂
  have zD : Fz s L (h₁.objs.size + 1) := f.fzd (dead3 _ (Nat.le_succ _)) (Nat.le_succ_of_le f.gx.g.size)
  have hD2 : h₁.get? (h₁.objs.size + 1) = none := dead3 _ (Nat.le_succ _)
  refine fSto f₂ e fun s₃ f₃ st₃ => g1 _ _ ?_
  have liD₃ := li_step liD₂ st₃ (by first | exact one1 (zD.ne) | simpa using zD.ne)
  have cM₃ := cell_step (cell_step cM st₂ (by first | exact nilT | exact nil1 | k_mem | simp)) st₃ (by first | exact one1 (zM.ne) | simpa using zM.ne)
  have cW₃ := cell_step (cell_step cW st₂ (by first | exact nilT | exact nil1 | k_mem | simp)) st₃ (by first | exact one1 (zW.ne) | simpa using zW.ne)
  have hbigW : L + 1 + 1 < h₁.objs.size + 1 := Nat.lt_succ_of_lt cW.lt
  have nDM : h₁.objs.size + 1 ≠ L + 1 := Nat.ne_of_gt (Nat.lt_trans (Nat.lt_succ_self _) hbigW)
  generalize h₁.objs.size + 1 = D at liD₃ f₃ zD nDM
  refine li_cps liD₃ fun ld ilD hld => ?_
  have hldlen : ld.length ≤ 3 := by
    have := congrArg List.length hld
    simp only [List.length_map, List.length_take] at this
    omega
  -- margin = 1 + sum(drawn) % 3
  refine wpAny_execs_cons (gen fun Y2 Z2 g2 => wpAny_Assign_Name (wpAny_BinOp (wpAny_Constant_int (wpAny_BinOp (gen fun Ya Za ga => rCall (rBui e (f₃.tk (tk := _)).gx.g (v := .builtin "sum") (by kernel_rfl) (rArgs (P := fun _ => True) (fun h q => keep_bui h q) (wpAny_items_cons (rLcl e (f₃.tk (tk := _)).ns lk_here (wpAny_items_nil ⟨trivial, sum_li (s := { s₃ with toks := _ }) hh ilD fun h₄ tk₄ t₄ st₄ => ?_⟩))))))))))
  refine ga _ _ (wpAny_Constant_int (PyProof.Rows.mod_int (by decide) (wpAny_add_int ?_)))
  obtain ⟨m, hm, hmeq⟩ := margin_ex (ld.map fun p => p.1).sum
  rw [hmeq]
  have P := hp m hm.1 hm.2
  have f₄ := f₃.ext (tk := tk₄ + 1 + 1 + 1) st₄
  refine sCel e hcM (v₀ := none) (cell_step cM₃ st₄ (by first | exact nilT | exact nil1 | k_mem | simp)) fun h₅ cM₅' st₅ => g2 _ _ ?_
  obtain ⟨tm, cM₅⟩ : ∃ tm, h₅.IsCell (L + 1) (some (.int m tm)) := ⟨_, cM₅'⟩
  clear cM₅'
  have f₅ := f₄.oth (tk := tk₄ + 1 + 1 + 1) zM st₅
  have b₅ : Step [L + 1] s₃.heap h₅ := (st₄.mono (by first | exact nilT | exact nil1 | k_mem | simp)).thn st₅ (fun b hb => .inl hb)
  -- gap = ' ' * margin
  refine wpAny_execs_cons (gen fun Y3 Z3 g3 => wpAny_Assign_Name (wpAny_BinOp (wpAny_Constant_str (rCel (s := { s₃ with heap := h₅, toks := _ }) e hcM cM₅ (SB.mul (mulOk_sp m hm.2) fun t₇ k₇ => ?_)))))
  rw [gp_mul']
  refine fSto (f₅.tk (tk := k₇)) e fun s₆ f₆ st₆ => g3 _ _ ?_
  have cM₆ := cell_step cM₅ st₆ (by first | exact one1 (zM.ne) | simpa using zM.ne)
  have b₆ : Step [L, L + 1] s₃.heap s₆.heap := (b₅.mono (by first | exact nilT | exact nil1 | k_mem | simp)).thn st₆ (fun b hb => .inl (List.mem_cons.mpr (.inl (List.mem_singleton.mp hb))))
  have cW₆ := cell_step cW₃ b₆ (by simp only [List.mem_cons, List.not_mem_nil, or_false, not_or]; exact ⟨zW.ne, Ne.symm nMW⟩)
  have liD₆ := li_step liD₃ b₆ (by simp only [List.mem_cons, List.not_mem_nil, or_false, not_or]; exact ⟨zD.ne, nDM⟩)
  -- numbers = [13, 5] + [x % 32 for x in drawn]
  have hlen3 : (numsOf3 xs).length ≤ 5 := by
    unfold numsOf3
    simp only [List.length_append, List.length_map, List.length_take, List.length_cons, List.length_nil]
    omega
  have h32 : ∀ n ∈ numsOf3 xs, n < 32 := by
    intro n hn
    unfold numsOf3 at hn
    rcases List.mem_append.mp hn with q | q
    · simp only [List.mem_cons, List.not_mem_nil, or_false] at q
      omega
    · obtain ⟨x, _, rfl⟩ := List.mem_map.mp q
      have h2 := Int.fmod_eq_emod_of_nonneg x (show (0 : Int) ≤ 32 by decide)
      have h4 := Int.emod_lt_of_pos x (show (0 : Int) < 32 by decide)
      omega
  refine li_cps liD₆ fun ld₆ ilD₆ hld₆ => ?_
  have hld6len : ld₆.length ≤ 3 := by
    have := congrArg List.length hld₆
    simp only [List.length_map, List.length_take] at this
    omega
  refine wpAny_execs_cons (gen fun Y4 Z4 g4 => wpAny_Assign_Name (wpAny_BinOp (wpAny_List (wpAny_items_cons (wpAny_Constant_int (wpAny_items_cons (wpAny_Constant_int (wpAny_items_nil ⟨(by first | exact Nat.le_of_ble_eq_true rfl | simp [sizeLine]), ?_⟩))))))))
  have st₇ := Step.push s₆.heap (lstObj (ivs [(13, s₆.toks), (5, s₆.toks + 1)]) 0)
  have f₇ := f₆.ext (tk := s₆.toks + 1 + 1) st₇
  have li₇ : LI (s₆.heap.push (lstObj (ivs [(13, s₆.toks), (5, s₆.toks + 1)]) 0)) s₆.heap.objs.size [13, 5] := ⟨_, _, Heap.get?_push_size _ rfl, rfl⟩
  refine compQ (cl := []) (outD ((xs.map (·.1)).take 3)) hh (by rw [he]; kernel_rfl) (by decide) rfl (by decide) (by kernel_rfl) (rLcl e f₇.ns (v := .ref D) (by kernel_rfl) ⟨D, ivs ld₆, rfl, ilD₆.at fun o q => st₇.keep _ _ (by first | exact nilT | exact nil1 | k_mem | simp) q, by simp; (first | with_reducible exact Nat.le_trans (by assumption) (by decide) | omega), rfl, ?_, ?_⟩)
  · intro k v s₈ mm C E' hv go hns hmm
    obtain ⟨n, t2, hn2, rfl⟩ := ivs_any hld₆ hv
    rw [outD_step _ k n hn2]
    refine wpAny_tests_nil ⟨s₈.toks, rfl, if_tt (gen fun Y Z g => wpAny_BinOp (nLoc (compEn e rfl) hns hmm (wpAny_Constant_int (PyProof.Rows.mod_int (by decide) (g _ _ ⟨_, _, _, rfl, rfl, ?_⟩))) (by rw [he]; kernel_rfl)))⟩
    rw [← toNat_fmod]
  · intro s₈ go₈ li₈
    have f₈ := f₇.call go₈ (f₇.gx.step go₈.heap (by first | exact nilT | exact nil1 | k_mem | simp)) (by first | exact nilT | exact nil1 | k_mem | simp)
    have hout : outD ((xs.map (·.1)).take 3) (ivs ld₆).length = (((xs.map (·.1)).take 3).map fun x => (x.fmod 32).toNat).map Int.ofNat := by
      unfold outD
      rw [List.take_of_length_le (by have := congrArg List.length hld₆; simp only [List.length_map] at this ⊢; omega)]
    rw [hout] at li₈
    refine li_add (li_step li₇ go₈.heap (by first | exact nilT | exact nil1 | k_mem | simp)) li₈ (by simp; omega) fun h₉ li₉ st₉ => ?_
    have f₉ := f₈.ext (tk := s₈.toks) st₉
    have zN := f₈.fz
    have li₉' : LI h₉ s₈.heap.objs.size ((numsOf3 xs).map Int.ofNat) := li₉
    have b₉ : Step [] s₆.heap h₉ := (st₇.thn go₈.heap (by first | exact nilT | exact nil1 | k_mem | simp)).thn st₉ (by first | exact nilT | exact nil1 | k_mem | simp)
    have nNM : s₈.heap.objs.size ≠ L + 1 := Nat.ne_of_gt (cell_step cM₆ (st₇.thn go₈.heap (by first | exact nilT | exact nil1 | k_mem | simp)) (by first | exact nilT | exact nil1 | k_mem | simp)).lt
    have nNW : s₈.heap.objs.size ≠ L + 1 + 1 := Nat.ne_of_gt (cell_step cW₆ (st₇.thn go₈.heap (by first | exact nilT | exact nil1 | k_mem | simp)) (by first | exact nilT | exact nil1 | k_mem | simp)).lt
    generalize s₈.heap.objs.size = N at li₉' zN nNM nNW
    refine fSto f₉ e fun s₁₀ f₁₀ st₁₀ => g4 _ _ ?_
    have cM₁₀ := cell_step (cell_step cM₆ b₉ (by first | exact nilT | exact nil1 | k_mem | simp)) st₁₀ (by first | exact one1 (zM.ne) | simpa using zM.ne)
    have cW₁₀ := cell_step (cell_step cW₆ b₉ (by first | exact nilT | exact nil1 | k_mem | simp)) st₁₀ (by first | exact one1 (zW.ne) | simpa using zW.ne)
    have li₁₀ := li_step li₉' st₁₀ (by first | exact one1 (zN.ne) | simpa using zN.ne)
    clear hout li₈ li₉ li₉' hld₆ ilD₆ liD₆ liD₃ hld ilD liD₂
    generalize hns : numsOf3 xs = ns at li₁₀ P hlen3 h32
    have tabs_ne : ∀ b : Addr, Fz s L b → b ∉ tabs := fun b z => by
      simp only [tabs, List.mem_cons, List.not_mem_nil, or_false, not_or]
      exact ⟨ne240 z.hi (by decide), ne240 z.hi (by decide)⟩
    have hlw : nsIn (Kf w) mainGlobals "_law_words" = some (some (.ref 215)) := by kernel_rfl
    refine wpAny_execs_cons (gen fun Y5 Z5 g5 => wpAny_Assign_Name (rCall (rGlob e f₁₀.gx.g hlw (rArgs (P := fun h => Gr w h) (keep_fn (by kernel_rfl)) (wpAny_items_cons (rLcl e f₁₀.ns lk_here (wpAny_items_cons (rCel e hcM cM₁₀ (wpAny_items_nil ⟨f₁₀.gx.g, wpAny_call (words_ct f₁₀.gx (lv' 3 (by decide)) li₁₀ hlen3 h32 hm (tabs_ne _ zN) fun s₁₁ W go₁₁ gx₁₁ ls₁₁ dW hW => ?_)⟩)))))))))
    have f₁₁ := f₁₀.call go₁₁ gx₁₁ (fun b hb => .inl hb)
    have zWd := f₁₀.fzd dW hW
    have cM₁₁ := cell_step cM₁₀ go₁₁.heap (tabs_ne _ zM)
    have cW₁₁ := cell_step cW₁₀ go₁₁.heap (tabs_ne _ zW)
    have li₁₁ := li_step li₁₀ go₁₁.heap (tabs_ne _ zN)
    have nWM : W ≠ L + 1 := cell_ne cM₁₀ dW
    have nWW : W ≠ L + 1 + 1 := cell_ne cW₁₀ dW
    refine fSto f₁₁ e fun s₁₂ f₁₂ st₁₂ => g5 _ _ ?_
    have cM₁₂ := cell_step cM₁₁ st₁₂ (by first | exact one1 (zM.ne) | simpa using zM.ne)
    have cW₁₂ := cell_step cW₁₁ st₁₂ (by first | exact one1 (zW.ne) | simpa using zW.ne)
    have li₁₂ := li_step li₁₁ st₁₂ (by first | exact one1 (zN.ne) | simpa using zN.ne)
    have ls₁₂ := ls_step ls₁₁ st₁₂ (by first | exact one1 (zWd.ne) | simpa using zWd.ne)
    -- odd = []
    refine wpAny_execs_cons (gen fun Y6 Z6 g6 => wpAny_Assign_Name (wpAny_List (wpAny_items_nil ⟨(by first | exact Nat.le_of_ble_eq_true rfl | simp [sizeLine]), ?_⟩)))
    have stO := Step.push s₁₂.heap (lstObj [] 0)
    have f₁₃ := f₁₂.ext (tk := s₁₂.toks) stO
    have zO := f₁₂.fz
    have dO := dead_size s₁₂.heap
    have eO : LI (s₁₂.heap.push (lstObj [] 0)) s₁₂.heap.objs.size [] := ⟨[], 0, Heap.get?_push_size _ rfl, rfl⟩
    have nOM : s₁₂.heap.objs.size ≠ L + 1 := cell_ne cM₁₂ dO
    have nOW : s₁₂.heap.objs.size ≠ L + 1 + 1 := cell_ne cW₁₂ dO
    have nON : s₁₂.heap.objs.size ≠ N := li_ne li₁₂ dO
    have nOW2 : s₁₂.heap.objs.size ≠ W := ls_ne ls₁₂ dO
    generalize s₁₂.heap.objs.size = O at zO dO eO nOM nOW nON nOW2
    refine fSto f₁₃ e fun s₁₄ f₁₄ st₁₄ => g6 _ _ ?_
    have bO : Step [L] s₁₂.heap s₁₄.heap := (stO.mono (by first | exact nilT | exact nil1 | k_mem | simp)).thn st₁₄ (fun b hb => .inl hb)
    -- carries = 0
    refine wpAny_execs_cons (gen fun Y7 Z7 g7 => wpAny_Assign_Name (wpAny_Constant_int (fSto f₁₄.tk e fun s₁₅ f₁₅ st₁₅ => g7 _ _ ?_)))
    have b₁₅ : Step [L] s₁₂.heap s₁₅.heap := bO.thn st₁₅ (fun b hb => .inl hb)
    have cM₁₅ := cell_step cM₁₂ b₁₅ (by first | exact one1 (zM.ne) | simpa using zM.ne)
    have cW₁₅ := cell_step cW₁₂ b₁₅ (by first | exact one1 (zW.ne) | simpa using zW.ne)
    have li₁₅ := li_step li₁₂ b₁₅ (by first | exact one1 (zN.ne) | simpa using zN.ne)
    have ls₁₅ := ls_step ls₁₂ b₁₅ (by first | exact one1 (zWd.ne) | simpa using zWd.ne)
    have eO₁₅ := li_step (li_step eO st₁₄ (by first | exact one1 (zO.ne) | simpa using zO.ne)) st₁₅ (by first | exact one1 (zO.ne) | simpa using zO.ne)
    -- for place in range(6, -1, -1)
    refine wpAny_execs_cons (wpAny_For (rCall (rBui e f₁₅.gx.g (v := .type "range") (by kernel_rfl) (rArgs (P := fun _ => True) (fun h q => ⟨.machine, .inr (.inl rfl), .of_pure rfl⟩) (wpAny_items_cons (wpAny_Constant_int (wpAny_items_cons (wpAny_UnaryOp (wpAny_Constant_int (neg_int (wpAny_items_cons (wpAny_UnaryOp (wpAny_Constant_int (neg_int (wpAny_items_nil ⟨trivial, call_range_3 (by decide) ?_ (.inl (PyProof.noPylong_small (by decide)))⟩)))))))))))))))
    have stR := Step.push s₁₅.heap { cls := .type "range", data := .fields #[.int 6 s₁₅.toks, .int (-1) (s₁₅.toks + 1 + 1), .int (-1) (s₁₅.toks + 1 + 1 + 1 + 1)] }
    have f₁₆ := f₁₅.ext (tk := s₁₅.toks + 1 + 1 + 1 + 1 + 1) stR
    have rQ : IsRange (s₁₅.heap.push { cls := .type "range", data := .fields #[.int 6 s₁₅.toks, .int (-1) (s₁₅.toks + 1 + 1), .int (-1) (s₁₅.toks + 1 + 1 + 1 + 1)] }) s₁₅.heap.objs.size 6 (-1) (-1) _ _ _ := IsRange.new ..
    generalize s₁₅.heap.push { cls := .type "range", data := .fields #[.int 6 s₁₅.toks, .int (-1) (s₁₅.toks + 1 + 1), .int (-1) (s₁₅.toks + 1 + 1 + 1 + 1)] } = hQ at f₁₆ rQ stR
    have dI := dead_size hQ
    have zI := f₁₆.fz
    have nI : ∀ {b : Addr} {o : Obj}, s₁₅.heap.get? b = some o → b ≠ hQ.objs.size := fun q => alive_ne (stR.keep _ _ (by first | exact nilT | exact nil1 | k_mem | simp) q) dI
    have nIM := let ⟨o, q, _⟩ := cM₁₅; nI q
    have nIW := let ⟨o, q, _⟩ := cW₁₅; nI q
    have nIN := let ⟨_, _, q, _⟩ := li₁₅; nI q
    have nIL := let ⟨_, _, q, _⟩ := ls₁₅; nI q
    have nIO := let ⟨_, _, q, _⟩ := eO₁₅; nI q
    refine rangeFor (w := w) (s₀ := s) (L := L) (n := 7) (fun k l s' => LJ m ns L N W O t₇ tm k l s'.heap) hh f₁₆ rQ (by decide +kernel) (by decide +kernel) ?_ ?_ ?_ ?_
    · intro h' st'
      exact LJ.step ⟨lk_skip (lk_skip (lk_skip (lk_skip lk_here))), lk_skip (lk_skip (lk_skip lk_here)), lk_skip (lk_skip lk_here), lk_skip lk_here, ⟨_, lk_here⟩, cM₁₅, ⟨_, cW₁₅⟩, li₁₅, ls₁₅, eO₁₅⟩ (stR.thn st' (by first | exact nilT | exact nil1 | k_mem | simp)) (by first | exact nilT | exact nil1 | k_mem | simp) (by first | exact nilT | exact nil1 | k_mem | simp) (by first | exact nilT | exact nil1 | k_mem | simp) (by first | exact nilT | exact nil1 | k_mem | simp) (by first | exact nilT | exact nil1 | k_mem | simp)
    · intro k l' s' h' tk j st'
      exact j.step st' (by first | exact one1 (nIM) | simpa using nIM) (by first | exact one1 (nIW) | simpa using nIW) (by first | exact one1 (nIN) | simpa using nIN) (by first | exact one1 (nIL) | simpa using nIL) (by first | exact one1 (nIO) | simpa using nIO)
    · clear st₁₅ b₁₅ bO st₁₄ f₁₄ stO f₁₃ eO
      intro k l' s' tk T' E' hk j fp zI' hoI hT'
      dsimp only at zI' hoI hT'
      generalize hQ.objs.size = I at *
      obtain ⟨oI, hoI⟩ := hoI
      obtain ⟨pl, hpl, hpl6, hplk⟩ : ∃ pl : Nat, (6 + (k : Int) * (-1)) = pl ∧ pl ≤ 6 ∧ places7[k]? = some pl := by
        refine ⟨6 - k, (by decide : ∀ k : Nat, k < 7 → (6 + (k : Int) * (-1)) = ((6 - k : Nat) : Int)) k hk, Nat.sub_le _ _, ?_⟩
        exact (by decide : ∀ k, k < 7 → places7[k]? = some (6 - k)) k hk
      obtain ⟨tc, hcar⟩ := j.carries
      obtain ⟨vW, jcw⟩ := j.cw
      refine fSto fp e fun s₂ f₂ st₂ => ?_
      rw [hpl] at f₂
      have b₂ : Step (wr L) s'.heap s₂.heap := (Step.refl _ |>.mono (by first | exact nilT | exact nil1 | k_mem | simp)).thn st₂ L_wr
      -- width = 2 ** place
      refine wpAny_execs_cons (gen fun Y8 Z8 g8 => wpAny_Assign_Name (wpAny_BinOp (wpAny_Constant_int (rLcl e (f₂.tk (tk := _)).ns lk_here (pow_int (by (first | with_reducible exact Int.natCast_nonneg _ | omega)) ?_ ?_)))))
      · have : (Builtin.Int.intBits 2 : Int) = 2 := by decide
        rw [this]
        omega
      rw [show (2 : Int) ^ (pl : Int).toNat = ((2 ^ pl : Nat) : Int) by simp]
      have hWd : 1 ≤ 2 ^ pl ∧ 2 ^ pl ≤ 64 := ⟨Nat.one_le_two_pow, Nat.le_trans (Nat.pow_le_pow_right (by decide) hpl6) (by decide)⟩
      refine sCel e hcW (cell_step jcw st₂ (by first | exact one1 (zW.ne) | simpa using zW.ne)) fun h₃ cW₃' st₃ => g8 _ _ ?_
      obtain ⟨tw, cw₃⟩ : ∃ tw, h₃.IsCell (L + 1 + 1) (some (.int ((2 ^ pl : Nat) : Int) tw)) := ⟨_, cW₃'⟩
      clear cW₃'
      have f₃ := f₂.oth (tk := s₂.toks + 1 + 1) zW st₃
      have b₃ : Step (wr L) s'.heap h₃ := b₂.thn st₃ W_wr
      -- rows = _law_set_out(words, margin, width)
      have hso : nsIn (Kf w) mainGlobals "_law_set_out" = some (some (.ref 222)) := by kernel_rfl
      obtain ⟨wl, hwl, hwle⟩ : ∃ wl : List (Str × Tok), h₃.IsList W (strValues wl).toArray ∧ wl.map (·.1) = wordsOf m ns := by
        obtain ⟨wl, n, q, hw⟩ := ls_step j.ls b₃ (nwr zWd nWW)
        exact ⟨wl, ⟨_, q, rfl, n, rfl⟩, hw⟩
      have cm₃ := cell_step j.cm b₃ (nwr zM nMW)
      refine wpAny_execs_cons (gen fun Y9 Z9 g9 => wpAny_Assign_Name (rCall (rGlob e f₃.gx.g hso (rArgs (P := fun h => Gr w h) (keep_fn (by kernel_rfl)) (wpAny_items_cons (rLcl e f₃.ns (lk_skip j.words) (wpAny_items_cons (rCel e hcM cm₃ (wpAny_items_cons (rCel e hcW cw₃ (wpAny_items_nil ⟨f₃.gx.g, wpAny_call (set_out_ct f₃.gx (lv' 8 (by decide)) hwl hwle P.gw P.ne P.few hm hWd.2 fun s₄ D' go₄ gx₄ lr₄' dD' hD' => ?_)⟩)))))))))))
      have lr₄ : LsAt s₄.heap D' (rowsT m (2 ^ pl) ns) := lr₄'
      clear lr₄'
      have f₄ := f₃.call go₄ gx₄ (fun b hb => .inl hb)
      have zR := f₃.fzd dD' hD'
      have nRW : D' ≠ L + 1 + 1 := cell_ne cw₃ dD'
      have b₄ : Step (wr L) s'.heap s₄.heap := b₃.thn go₄.heap tabs_wr
      have cw₄ := cell_step cw₃ go₄.heap (tabs_ne _ zW)
      refine fSto f₄ e fun s₅ f₅ st₅ => g9 _ _ ?_
      have lr₅ := ls_step lr₄ st₅ (by first | exact one1 (zR.ne) | simpa using zR.ne)
      have b₅ : Step (wr L) s'.heap s₅.heap := b₄.thn st₅ L_wr
      have cw₅ := cell_step cw₄ st₅ (by first | exact one1 (zW.ne) | simpa using zW.ne)
      have hrsum := P.rsum pl hpl6
      have hrlen : (rowsT m (2 ^ pl) ns).length ≤ 10000 := Nat.le_trans (Nat.le_add_left _ _) hrsum
      have hgl : (gp m).length ≤ 16 := by rw [gp_len]; omega
      -- if gap.join(rows) != gap.join(words)
      obtain ⟨itR, ilR, iaR⟩ := ls_strs (s := s₅) lr₅
      obtain ⟨itW, ilW, iaW⟩ := ls_strs (s := s₅) (ls_step j.ls b₅ (nwr zWd nWW))
      refine wpAny_execs_cons (gen fun Y10 Z10 g10 => wpAny_If (wpAny_isTrue_Compare1 (gen fun Ya Za ga => methodCall_KW (kws := []) (rLcl e f₅.ns (v := .str (gp m) t₇) (lk_skip (lk_skip j.gap)) (GM.join ?_)))))
      refine rArgs (P := fun _ => True) (fun h q => keep_bui h q) (wpAny_items_cons (rLcl e f₅.ns (v := .ref D') lk_here (wpAny_items_nil ⟨trivial, ?_⟩)))
      refine join_listW ilR iaR hgl (Nat.le_trans hrsum (by decide)) fun t₈ k₈ => ?_
      refine ga _ _ (gen fun Yb Zb gb => methodCall_KW (kws := []) (rLcl e (f₅.tk (tk := k₈)).ns (v := .str (gp m) t₇) (lk_skip (lk_skip j.gap)) (GM.join ?_)))
      refine rArgs (P := fun _ => True) (fun h q => keep_bui h q) (wpAny_items_cons (rLcl e (f₅.tk (tk := k₈)).ns (v := .ref W) (lk_skip (lk_skip j.words)) (wpAny_items_nil ⟨trivial, ?_⟩)))
      refine join_listW (s := { s₅ with toks := k₈ }) ilW iaW hgl P.wsum fun t₉ k₉ => ?_
      refine gb _ _ (PyProof.Rows.ne_str ?_)
      rw [P.join pl hpl6, bne_self_eq_false]
      refine wpAny_truthy_bool (if_ff (wpAny_execs_nil (g10 _ _ ?_)))
      have f₆ := f₅.tk (tk := k₉)
      -- lengths = [..]
      clear ilR iaR ilW iaW
      obtain ⟨rl, nr, er, hrl⟩ := id lr₅
      have hrll : rl.length = (rowsT m (2 ^ pl) ns).length := by rw [← hrl]; simp
      have cm₅ := cell_step j.cm b₅ (nwr zM nMW)
      refine wpAny_execs_cons (gen fun Y11 Z11 g11 => compQA (s₀ := s) (cl := [("margin", L + 1)]) (y := "lengths") (outR (rowsT m (2 ^ pl) ns) m) e hh (by rw [he]; kernel_rfl) (by decide) rfl (by decide) (by kernel_rfl) (by rw [he]; kernel_rfl) (by kernel_rfl)
        (rLcl e f₆.ns (v := .ref D') lk_here ⟨D', strValues rl, rfl, ⟨_, er, rfl, nr, rfl⟩, ?_, rfl, f₆, ?_, ?_⟩))
      · rw [strValues, List.length_map, hrll]
        exact hrlen
      · intro q v s₇ mm C E'' hv stq f₇ hns hmm
        obtain ⟨r, tr, hr, rfl⟩ := strs_at hrl hv
        rw [outR_step _ m q r hr]
        have cmq := cell_step cm₅ stq (by first | exact one1 (zM.ne) | simpa using zM.ne)
        refine wpAny_tests_nil ⟨s₇.toks, rfl, if_tt (gen fun Y Z g => wpAny_BinOp (rCall (rBui (compEn e rfl) f₇.gx.g (v := .builtin "len") (by kernel_rfl) (rArgs (P := fun _ => True) (fun h q => keep_bui h q) (wpAny_items_cons (nLoc (compEn e rfl) hns hmm (wpAny_items_nil ⟨trivial, PyProof.Rows.len_str ?_ ?_⟩) (by rw [he]; kernel_rfl)))) (hl := by rw [he]; kernel_rfl))))⟩
        · have h3 : ((rowsT m (2 ^ pl) ns).map (·.length)).sum ≤ 10000 := by omega
          have h4 := le_sumN (List.mem_map_of_mem (f := fun x : Str => x.length) (List.mem_of_getElem? hr))
          omega
        · refine rCel (s := { s₇ with toks := _ }) (compEn e rfl) (by kernel_rfl) cmq (wpAny_add_int (g _ _ ⟨_, _, _, rfl, rfl, ?_⟩)) (by rw [he]; kernel_rfl)
          simp
      · intro s₇ Le f₇ st₇' lL₇' zL dL
        refine g11 _ _ ?_
        have lL₇ : LI s₇.heap Le ((lensOf m ns (2 ^ pl)).map Int.ofNat) := by
          rw [← P.lens pl hpl6]
          have := outR_all (m := m) hrl
          rw [← this]; exact lL₇'
        clear lL₇'
        have hlensl : (lensOf m ns (2 ^ pl)).length ≤ 10000 := by
          rw [← P.lens pl hpl6, List.length_map]; exact hrlen
        have hsizl : (sizesOf ns (2 ^ pl)).length ≤ 10000 := by
          unfold lensOf at hlensl
          rwa [List.length_map] at hlensl
        have b₇ : Step (wr L) s'.heap s₇.heap := b₅.thn st₇' L_wr
        have cw₇ := cell_step cw₅ st₇' (by first | exact one1 (zW.ne) | simpa using zW.ne)
        have cm₇ := cell_step cm₅ st₇' (by first | exact one1 (zM.ne) | simpa using zM.ne)
        -- if lengths != [..]
        have hsz : nsIn (Kf w) mainGlobals "_law_sizes" = some (some (.ref 227)) := by kernel_rfl
        refine wpAny_execs_cons (gen fun Y12 Z12 g12 => wpAny_If (wpAny_isTrue_Compare1 (rLcl e f₇.ns (v := .ref Le) lk_here (compQ (cl := [("margin", L + 1)]) (outM (fun z => (m + 1) * z) (sizesOf ns (2 ^ pl))) hh (by rw [he]; kernel_rfl) (by decide) rfl (by decide) (by kernel_rfl)
          (rCall (rGlob e f₇.gx.g hsz (rArgs (P := fun h => Gr w h) (keep_fn (by kernel_rfl)) (wpAny_items_cons (rLcl e f₇.ns (v := .ref N) (lk_skip (lk_skip (lk_skip j.numbers))) (wpAny_items_cons (rCel e hcW cw₇ (wpAny_items_nil ⟨f₇.gx.g, wpAny_call (sizes_ct f₇.gx (lv' 2 (by decide)) (li_step j.li b₇ (nwr zN nNW)) (by (first | with_reducible exact Nat.le_trans (by assumption) (by decide) | omega)) h32 hWd (tabs_ne _ zN) fun s₈ Z go₈ gx₈ lz₈ dZ hZ => ?_)⟩))))))))))))
        have f₈ := f₇.call go₈ gx₈ (fun b hb => .inl hb)
        have zZ := f₇.fzd dZ hZ
        refine li_cps lz₈ fun lz ilz hlz => ?_
        have hlzl := ivs_len hlz
        have cm₈ := cell_step cm₇ go₈.heap (tabs_ne _ zM)
        have cw₈ := cell_step cw₇ go₈.heap (tabs_ne _ zW)
        have lL₈ := li_step lL₇ go₈.heap (tabs_ne _ zL)
        have b₈ : Step (wr L) s'.heap s₈.heap := b₇.thn go₈.heap tabs_wr
        refine ⟨Z, ivs lz, rfl, ilz, by rw [hlzl]; exact hsizl, rfl, ?_, ?_⟩
        · intro q v s₉ mm C E'' hv go₉ hns hmm
          obtain ⟨z, tz, hz, rfl⟩ := ivs_at hlz hv
          rw [outM_step _ _ q z hz]
          refine wpAny_tests_nil ⟨s₉.toks, rfl, if_tt (gen fun Y Z g => wpAny_BinOp (wpAny_BinOp (rCel (compEn e rfl) (by kernel_rfl) (cell_step cm₈ go₉.heap (by first | exact nilT | exact nil1 | k_mem | simp)) (wpAny_Constant_int (wpAny_add_int (nLoc (s := { s₉ with toks := _ }) (compEn e rfl) hns hmm (mul_int ?_ (IntMulOk.of_left (intBits_le_64 (by omega) (by omega)))) (by rw [he]; kernel_rfl)))) (by rw [he]; kernel_rfl))))⟩
          exact g _ _ ⟨_, _, _, rfl, rfl, by rw [mw_eq]⟩
        · intro s₉ go₉ ln₉
          have f₉ := f₈.call go₉ (f₈.gx.step go₉.heap (by first | exact nilT | exact nil1 | k_mem | simp)) (by first | exact nilT | exact nil1 | k_mem | simp)
          have hout : outM (fun z => (m + 1) * z) (sizesOf ns (2 ^ pl)) (ivs lz).length = (lensOf m ns (2 ^ pl)).map Int.ofNat := outM_all hlz
          rw [hout] at ln₉
          have lL₉ := li_step lL₈ go₉.heap (by first | exact nilT | exact nil1 | k_mem | simp)
          refine ne_li lL₉ ln₉ (lv' 1 (by decide)) (wpAny_truthy_bool (if_ff (wpAny_execs_nil (g12 _ _ ?_))))
          have b₉ : Step (wr L) s'.heap s₉.heap := b₈.thn go₉.heap (by first | exact nilT | exact nil1 | k_mem | simp)
          have cm₉ := cell_step cm₈ go₉.heap (by first | exact nilT | exact nil1 | k_mem | simp)
          have cw₉ := cell_step cw₈ go₉.heap (by first | exact nilT | exact nil1 | k_mem | simp)
          clear ln₉ hout ilz lz₈ go₉ go₈ lL₈ lL₇ cm₈ cw₈ cm₇ cw₇ b₈ b₇ f₈ f₇
          -- full = len([..])
          have hlp : (pl ≤ 6) := hpl6
          refine li_cps lL₉ fun lL ilL hlL => ?_
          have hlLl := ivs_len hlL
          refine wpAny_execs_cons (gen fun Y13 Z13 g13 => wpAny_Assign_Name (rCall (rBui e f₉.gx.g (v := .builtin "len") (by kernel_rfl) (rArgs (P := fun _ => True) (fun h q => keep_bui h q) (wpAny_items_cons
            (compQ (cl := [("width", L + 1 + 1), ("margin", L + 1)]) (outP (· == (m + 1) * 2 ^ pl) (lensOf m ns (2 ^ pl))) hh (by rw [he]; kernel_rfl) (by decide) rfl (by decide) (by kernel_rfl)
              (rLcl e f₉.ns (v := .ref Le) lk_here ⟨Le, ivs lL, rfl, ilL, by rw [hlLl]; exact hlensl, rfl, ?_, ?_⟩)))))))
          · intro q v s₁₀ mm C E'' hv go₁₀ hns hmm
            obtain ⟨z, tz, hz, rfl⟩ := ivs_at hlL hv
            refine wpAny_tests_one (gen fun Y Z g => wpAny_isTrue_Compare1 (nLoc (compEn e rfl) hns hmm (wpAny_BinOp (wpAny_BinOp (rCel (compEn e rfl) (by kernel_rfl) (cell_step cm₉ go₁₀.heap (by first | exact nilT | exact nil1 | k_mem | simp)) (wpAny_Constant_int (wpAny_add_int (rCel (s := { s₁₀ with toks := _ }) (compEn e rfl) (by kernel_rfl) (cell_step cw₉ go₁₀.heap (by first | exact nilT | exact nil1 | k_mem | simp)) (mul_int ?_ (IntMulOk.of_left (intBits_le_64 (by omega) (by omega)))) (by rw [he]; kernel_rfl)))) (by rw [he]; kernel_rfl)))) (by rw [he]; kernel_rfl)))
            refine PyProof.Rows.eq_int (wpAny_truthy_bool ?_)
            rw [mw_eq, eqN]
            cases hzz : z == (m + 1) * 2 ^ pl with
            | true => exact g _ _ ⟨_, rfl, if_tt (nLoc (compEn e rfl) (s := { s₁₀ with toks := _ }) hns hmm ⟨_, tz, _, rfl, rfl, outP_tt hz hzz⟩ (by rw [he]; kernel_rfl))⟩
            | false => exact g _ _ ⟨_, rfl, if_ff (outP_ff hz hzz)⟩
          · intro s₁₀ go₁₀ lf₁₀
            have f₁₀ := f₉.call go₁₀ (f₉.gx.step go₁₀.heap (by first | exact nilT | exact nil1 | k_mem | simp)) (by first | exact nilT | exact nil1 | k_mem | simp)
            have hout := outP_all (p := (· == (m + 1) * 2 ^ pl)) hlL
            rw [hout] at lf₁₀
            refine li_cps lf₁₀ fun lf ilf hlf => ?_
            have hfull : (ivs lf).toArray.size = fullOf m ns (2 ^ pl) := ivs_len hlf
            have hfle : fullOf m ns (2 ^ pl) ≤ 10000 := Nat.le_trans (List.length_filter_le _ _) hlensl
            refine wpAny_items_nil ⟨trivial, PyProof.Rows.len_list ilf (by rw [hfull]; omega) ?_⟩
            rw [hfull]
            clear hout ilf hlf lf₁₀ hfull
            refine fSto f₁₀.tk e fun s₁₁ f₁₁ st₁₁ => g13 _ _ ?_
            have b₁₁ : Step (wr L) s'.heap s₁₁.heap := (b₉.thn go₁₀.heap (by first | exact nilT | exact nil1 | k_mem | simp)).thn st₁₁ L_wr
            have cw₁₁ := cell_step (cell_step cw₉ go₁₀.heap (by first | exact nilT | exact nil1 | k_mem | simp)) st₁₁ (by first | exact one1 (zW.ne) | simpa using zW.ne)
            clear cm₉ cw₉ lL₉ ilL hlL go₁₀ f₁₀ b₉ f₉
            -- if full % 2 == 1: odd.append(place)
            refine f₁₁.gen fun lc hlc fc => ?_
            have q1 : lc.lookup ("full" : Str) = some (.int (fullOf m ns (2 ^ pl)) _) := hlc ▸ lk_here
            have q2 : lc.lookup ("odd" : Str) = some (.ref O) := hlc ▸ lk_skip (lk_skip (lk_skip (lk_skip j.odd)))
            have q3 : lc.lookup ("place" : Str) = some (.int pl tk) := hlc ▸ lk_skip (lk_skip (lk_skip lk_here))
            have q4 : lc.lookup ("carries" : Str) = some (.int (carriesTo m ns k) tc) := hlc ▸ lk_skip (lk_skip (lk_skip (lk_skip hcar)))
            have q5 : lc.lookup ("numbers" : Str) = some (.ref N) := hlc ▸ lk_skip (lk_skip (lk_skip (lk_skip j.numbers)))
            have q6 : lc.lookup ("gap" : Str) = some (.str (gp m) t₇) := hlc ▸ lk_skip (lk_skip (lk_skip (lk_skip j.gap)))
            have q7 : lc.lookup ("words" : Str) = some (.ref W) := hlc ▸ lk_skip (lk_skip (lk_skip (lk_skip j.words)))
            clear f₁₁ hlc
            have lo₁₁ := li_step j.od b₁₁ (nwr zO nOW)
            refine wpAny_execs_cons (wpAny_mono (?_ : wpAny _ _ _ (fun fl s₁₂ => OE w s s' L O lc ((oddsTo m ns (k + 1)).map Int.ofNat) (2 ^ pl) tw fl s₁₂) _ _) (fun fl s₁₂ h₁₂ => ?_) (fun _ _ z => z))
            · refine gen fun Y Z g => wpAny_If (wpAny_isTrue_Compare1 (wpAny_BinOp (rLcl e fc.ns q1 (wpAny_Constant_int (PyProof.Rows.mod_int (by decide) (wpAny_Constant_int (PyProof.Rows.eq_int (wpAny_truthy_bool ?_))))))))
              rw [fmod2]
              by_cases hod : fullOf m ns (2 ^ pl) % 2 = 1
              · rw [hod, show (((1 : Nat) : Int) == 1) = true by decide]
                refine if_tt ?_
                refine wpAny_execs_cons (wpAny_Expr (methodCall_KW (kws := []) (rLcl e (fc.tk (tk := _)).ns q2 (li_meth (s := { s₁₁ with toks := _ }) lo₁₁ (rArgs (P := fun _ => True) (fun h q => keep_bui h q) (wpAny_items_cons (rLcl e (fc.tk (tk := _)).ns q3 (wpAny_items_nil ⟨trivial, li_append (s := { s₁₁ with toks := _ }) lo₁₁ ?_ fun hA eA stA => ?_⟩))))))) e.inter)
                · rw [List.length_map]
                  exact Nat.le_trans (oddsTo_len m ns k) (by decide)
                refine wpAny_execs_nil (g _ _ ⟨rfl, fc.oth zO stA, (b₁₁.mono (fun x hx => List.mem_cons_of_mem _ hx)).thn stA (fun x hx => .inl (by rw [List.mem_singleton.mp hx]; exact List.mem_cons_self ..)), ?_, cell_step cw₁₁ stA (one1 (Ne.symm nOW))⟩)
                rw [oddsTo_step m ns k pl hplk, if_pos hod, List.map_append]
                exact eA
              · have h0 : fullOf m ns (2 ^ pl) % 2 = 0 := by omega
                rw [h0, show (((0 : Nat) : Int) == 1) = false by decide]
                refine if_ff (wpAny_execs_nil (g _ _ ⟨rfl, fc.tk, b₁₁.mono (fun x hx => List.mem_cons_of_mem _ hx), ?_, cw₁₁⟩))
                rw [oddsTo_step m ns k pl hplk, if_neg hod, List.append_nil]
                exact lo₁₁
            · obtain ⟨efl, f₁₂, b₁₂, lo₁₂, cw₁₂⟩ := h₁₂
              subst efl
              have ncons : ∀ {b : Addr}, b ≠ O → b ∉ wr L → b ∉ O :: wr L := fun h1 h2 h3 => by
                rcases List.mem_cons.mp h3 with h | h
                · exact h1 h
                · exact h2 h
              -- carries += full - len([..])
              refine li_cps (li_step j.li b₁₂ (ncons (Ne.symm nON) (nwr zN nNW))) fun ln iln hln => ?_
              have hlnl := ivs_len hln
              refine wpAny_execs_cons (gen fun Y15 Z15 g15 => wpAny_AugAssign_Name (wpAny_loadName_local e.kind ((e.kinds _).trans (by kernel_rfl)) (e.loc ▸ f₁₂.ns) q4 (wpAny_BinOp (rLcl e f₁₂.ns q1 (rCall (rBui e f₁₂.gx.g (v := .builtin "len") (by kernel_rfl) (rArgs (P := fun _ => True) (fun h q => keep_bui h q) (wpAny_items_cons
                (compQ (cl := [("width", L + 1 + 1)]) (outP (fun n => n / 2 ^ pl % 2 == 1) ns) hh (by rw [he]; kernel_rfl) (by decide) rfl (by decide) (by kernel_rfl)
                  (rLcl e f₁₂.ns q5 ⟨N, ivs ln, rfl, iln, by rw [hlnl]; exact Nat.le_trans hlen3 (by decide), rfl, ?_, ?_⟩))))))))))
              · intro q v s₁₃ mm C E'' hv go₁₃ hnsm hmm
                obtain ⟨z, tz, hz, rfl⟩ := ivs_at hln hv
                refine wpAny_tests_one (gen fun Y Z g => wpAny_isTrue_Compare1 (wpAny_BinOp (wpAny_BinOp (nLoc (compEn e rfl) hnsm hmm (rCel (compEn e rfl) (by kernel_rfl) (cell_step cw₁₂ go₁₃.heap (by first | exact nilT | exact nil1 | k_mem | simp)) (floordiv_int (by omega) ?_ (.inl (PyProof.noPylong_small (by first | exact nat_abs hWd.2 (by decide) | omega)))) (by rw [he]; kernel_rfl)) (by rw [he]; kernel_rfl)))))
                rw [fdivN]
                refine wpAny_Constant_int (PyProof.Rows.mod_int (by decide) (wpAny_Constant_int (PyProof.Rows.eq_int (wpAny_truthy_bool ?_))))
                rw [fmod2, eqN1]
                cases hzz : z / 2 ^ pl % 2 == 1 with
                | true => exact g _ _ ⟨_, rfl, if_tt (nLoc (compEn e rfl) (s := { s₁₃ with toks := _ }) hnsm hmm ⟨_, tz, _, rfl, rfl, outP_tt hz hzz⟩ (by rw [he]; kernel_rfl))⟩
                | false => exact g _ _ ⟨_, rfl, if_ff (outP_ff hz hzz)⟩
              · intro s₁₃ go₁₃ lf₁₃
                have f₁₃ := f₁₂.call go₁₃ (f₁₂.gx.step go₁₃.heap (by first | exact nilT | exact nil1 | k_mem | simp)) (by first | exact nilT | exact nil1 | k_mem | simp)
                have hout := outP_all (p := fun n => n / 2 ^ pl % 2 == 1) hln
                rw [hout] at lf₁₃
                refine li_cps lf₁₃ fun lf ilf hlf => ?_
                have hones : (ivs lf).toArray.size = onesOf ns (2 ^ pl) := ivs_len hlf
                have hole : onesOf ns (2 ^ pl) ≤ 5 := Nat.le_trans (List.length_filter_le _ _) hlen3
                refine wpAny_items_nil ⟨trivial, PyProof.Rows.len_list ilf (by rw [hones]; omega) ?_⟩
                rw [hones]
                refine sub_int (PyProof.Rows.iadd_int (fSto f₁₃.tk e fun s₁₄ f₁₄ st₁₄ => g15 _ _ (wpAny_execs_nil ?_)))
                have b₁₄ : Step (O :: wr L) s'.heap s₁₄.heap := (b₁₂.thn go₁₃.heap (by first | exact nilT | exact nil1 | k_mem | simp)).thn st₁₄ (fun x hx => .inl (by rw [List.mem_singleton.mp hx]; simp [wr]))
                refine hT' _ _ f₁₄ ⟨lk_skip q6, lk_skip q5, lk_skip q7, lk_skip q2, ⟨_, by rw [carriesTo_step m ns k pl hplk]; exact lk_here⟩, cell_step j.cm b₁₄ (ncons (Ne.symm nOM) (nwr zM nMW)), ⟨_, cell_step (cell_step cw₁₂ go₁₃.heap (by first | exact nilT | exact nil1 | k_mem | simp)) st₁₄ (by first | exact one1 (zW.ne) | simpa using zW.ne)⟩, li_step j.li b₁₄ (ncons (Ne.symm nON) (nwr zN nNW)), ls_step j.ls b₁₄ (ncons (Ne.symm nOW2) (nwr zWd nWW)), li_step (li_step lo₁₂ go₁₃.heap (by first | exact nilT | exact nil1 | k_mem | simp)) st₁₄ (by first | exact one1 (zO.ne) | simpa using zO.ne)⟩ (fun o q => ?_)
                exact b₁₄.keep _ _ (ncons (Ne.symm nIO) (nwr zI' (Ne.symm nIW))) q
    · intro l' s' j fl
      clear st₁₅ b₁₅ bO st₁₄ f₁₄ stO f₁₃ eO f₁₅ f₁₆ stR
      obtain ⟨tc, hcar⟩ := j.carries
      refine li_cps j.li fun ln iln hln => ?_
      have hsum : (ln.map (·.1)).sum = ((ns.sum : Nat) : Int) := by rw [hln, sumN]
      have hT := P.total
      -- total = sum(numbers)
      refine wpAny_execs_cons (gen fun Y16 Z16 g16 => wpAny_Assign_Name (rCall (rBui e fl.gx.g (v := .builtin "sum") (by kernel_rfl) (rArgs (P := fun _ => True) (fun h q => keep_bui h q) (wpAny_items_cons (rLcl e fl.ns j.numbers (wpAny_items_nil ⟨trivial, sum_li hh iln fun h₂ tk₂ t₂ st₂ => ?_⟩)))))))
      rw [hsum]
      refine fSto (fl.ext (tk := tk₂) st₂) e fun s₃ f₃ st₃ => g16 _ _ ?_
      have b₃ : Step [L] s'.heap s₃.heap := (st₂.mono (by first | exact nilT | exact nil1 | k_mem | simp)).thn st₃ (fun x hx => .inl hx)
      have li₃ := li_step j.li b₃ (by first | exact one1 (zN.ne) | simpa using zN.ne)
      have lo₃ := li_step j.od b₃ (by first | exact one1 (zO.ne) | simpa using zO.ne)
      -- if _law_places(total) != odd
      have hpl : nsIn (Kf w) mainGlobals "_law_places" = some (some (.ref 210)) := by kernel_rfl
      refine wpAny_execs_cons (gen fun Y17 Z17 g17 => wpAny_If (wpAny_isTrue_Compare1 (gen fun Ya Za ga => rCall (rGlob e f₃.gx.g hpl (rArgs (P := fun h => Gr w h) (keep_fn (by kernel_rfl)) (wpAny_items_cons (rLcl e f₃.ns lk_here (wpAny_items_nil ⟨f₃.gx.g, wpAny_call (places_ct f₃.gx (lv' 2 (by decide)) (by omega) fun s₄ D' go₄ gx₄ lp₄ dD' hD' => ?_)⟩))))))))
      have f₄ := f₃.call go₄ gx₄ (fun b hb => .inl hb)
      have li₄ := li_step li₃ go₄.heap (tabs_ne _ zN)
      have lo₄ := li_step lo₃ go₄.heap (tabs_ne _ zO)
      rw [P.places] at lp₄
      refine ga _ _ (rLcl e f₄.ns (v := .ref O) (lk_skip j.odd) (ne_li lp₄ lo₄ (lv' 1 (by decide)) (wpAny_truthy_bool (if_ff (wpAny_execs_nil (g17 _ _ ?_))))))
      -- if _is_single_bit(total) is not (len(odd) == 1)
      have hsb : nsIn (Kf w) mainGlobals "_is_single_bit" = some (some (.ref 189)) := by kernel_rfl
      refine wpAny_execs_cons (gen fun Y18 Z18 g18 => wpAny_If (wpAny_isTrue_Compare1 (gen fun Ya Za ga => rCall (rGlob e f₄.gx.g hsb (rArgs (P := fun h => Gr w h) (keep_fn (by kernel_rfl)) (wpAny_items_cons (rLcl e f₄.ns lk_here (wpAny_items_nil ⟨f₄.gx.g, wpAny_call (single_ct f₄.gx (lv' 1 (by decide)) (by omega) fun s₅ go₅ gx₅ => ?_)⟩))))))))
      have f₅ := f₄.call go₅ gx₅ (by first | exact nilT | exact nil1 | k_mem | simp)
      have li₅ := li_step li₄ go₅.heap (by first | exact nilT | exact nil1 | k_mem | simp)
      have lo₅ := li_step lo₄ go₅.heap (by first | exact nilT | exact nil1 | k_mem | simp)
      refine li_cps lo₅ fun lo ilo hlo => ?_
      have hol : (ivs lo).toArray.size = (oddsTo m ns 7).length := ivs_len hlo
      have ho7 := oddsTo_len m ns 7
      refine ga _ _ (gen fun Yb Zb gb => wpAny_Compare1 (rCall (rBui e f₅.gx.g (v := .builtin "len") (by kernel_rfl) (rArgs (P := fun _ => True) (fun h q => keep_bui h q) (wpAny_items_cons (rLcl e f₅.ns (v := .ref O) (lk_skip j.odd) (wpAny_items_nil ⟨trivial, PyProof.Rows.len_list ilo (by rw [hol]; omega) ?_⟩)))))))
      rw [hol]
      refine wpAny_Constant_int (PyProof.Rows.eq_int (gb _ _ ?_))
      refine wpAny_isNot_plain rfl ?_
      rw [P.single, beq_self_eq_true]
      refine wpAny_truthy_bool (if_ff (wpAny_execs_nil (g18 _ _ ?_)))
      -- ways = _law_ways(numbers)
      have hwy : nsIn (Kf w) mainGlobals "_law_ways" = some (some (.ref 234)) := by kernel_rfl
      have f₆ := f₅.tk (tk := s₅.toks + 1 + 1 + 1)
      refine wpAny_execs_cons (gen fun Y19 Z19 g19 => wpAny_Assign_Name (rCall (rGlob e f₆.gx.g hwy (rArgs (P := fun h => Gr w h) (keep_fn (by kernel_rfl)) (wpAny_items_cons (rLcl e f₆.ns (v := .ref N) (lk_skip j.numbers) (wpAny_items_nil ⟨f₆.gx.g, wpAny_call (ways_ct f₆.gx (lv' 2 (by decide)) li₅ (by (first | with_reducible exact Nat.le_trans (by assumption) (by decide) | omega)) (by omega) (fun n hn => by have := h32 n hn; omega) (tabs_ne _ zN) fun s₇ tv go₇ gx₇ => ?_)⟩)))))))
      have f₇ := f₆.call go₇ gx₇ (fun b hb => .inl hb)
      refine fSto f₇ e fun s₈ f₈ st₈ => g19 _ _ ?_
      -- return _high_bit(ways ^ ways - 1) == carries
      have hhb : nsIn (Kf w) mainGlobals "_high_bit" = some (some (.ref 203)) := by kernel_rfl
      refine wpAny_execs_cons (wpAny_Return_some (wpAny_Compare1 (rCall (rGlob e f₈.gx.g hhb (rArgs (P := fun h => Gr w h) (keep_fn (by kernel_rfl)) (wpAny_items_cons (wpAny_BinOp (rLcl e f₈.ns lk_here (wpAny_BinOp (rLcl e f₈.ns lk_here (wpAny_Constant_int (sub_int (xor_int (wpAny_items_nil ⟨f₈.gx.g, wpAny_call (high_ct (f₈.tk (tk := _)).gx (lv' 1 (by decide)) fun s₉ t₉ go₉ gx₉ => ?_)⟩))))))))))))))
      have f₉ := (f₈.tk (tk := s₈.toks + 1 + 1 + 1)).call (s' := s₉) ⟨go₉.heap, go₉.gens, go₉.os⟩ gx₉ (by first | exact nilT | exact nil1 | k_mem | simp)
      refine rLcl e f₉.ns (lk_skip (lk_skip hcar)) (PyProof.Rows.eq_int ?_)
      rw [P.kummer, beq_self_eq_true]
      exact hT₀ _ _ (ret _ f₉.go f₉.gx)
end
end Mine.Internal
end

section
open PySem PySem.W PyProof.Rows PySem.Calls PySem.W.X PySem.W.ZRun
set_option maxRecDepth 100000
set_option maxHeartbeats 4000000
set_option linter.unusedVariables false
namespace Mine.Internal

theorem lookup_filter {l : Frag} {q : Nat → Bool} {a : Nat} {o : Obj} (h : (l.filter fun p => q p.1).lookup a = some o) : l.lookup a = some o := by
  induction l with
  | nil => exact h
  | cons p r ih =>
    obtain ⟨b, x⟩ := p
    rw [List.lookup_cons]
    by_cases hq : q b = true
    · rw [List.filter_cons_of_pos (by first | exact one1 (hq) | simpa using hq), List.lookup_cons] at h
      cases e : (a == b) with
      | true => rw [e] at h; exact h
      | false => rw [e] at h; exact ih h
    · rw [List.filter_cons_of_neg (by first | exact one1 (hq) | simpa using hq)] at h
      cases e : (a == b) with
      | true =>
        have hab := beq_iff_eq.mp e
        exfalso
        have : ((r.filter fun p => q p.1).map (·.1)).contains a = true ∨ True := .inr trivial
        have hm : (a, o) ∈ r.filter fun p => q p.1 := mem_of_lookupN h
        have := (List.mem_filter.mp hm).2
        exact hq (by rw [← hab]; exact this)
      | false => exact ih h
where
  mem_of_lookupN {l : Frag} {a : Nat} {o : Obj} (h : l.lookup a = some o) : (a, o) ∈ l := by
    induction l with
    | nil => cases h
    | cons p r ih =>
      obtain ⟨b, x⟩ := p
      rw [List.lookup_cons] at h
      cases e : (a == b) with
      | true => rw [e] at h; cases h; rw [beq_iff_eq.mp e]; exact List.mem_cons_self ..
      | false => rw [e] at h; exact List.mem_cons_of_mem _ (ih h)

noncomputable def fieldsQ (d : Data) : Option (Array Value) := match d with | .fields vs => some vs | _ => none
theorem none_some {α : Type} {a : α} (h : none = some a) : False := nomatch h
theorem nz {a b : Nat} (h : a = b) (h2 : Nat.beq a b = false) : False := Nat.ne_of_beq_eq_false h2 h
theorem fields_ex {d : Data} {vs : Array Value} (h : fieldsQ d = some vs) : d = .fields vs := by
  cases d with
  | fields us => exact congrArg Data.fields (Option.some.inj h)
  | _ => exact (none_some h).elim
noncomputable def plainQ (d : Data) : Bool := match d with | .plain => true | _ => false
theorem plain_ex {d : Data} (h : plainQ d = true) : d = .plain := by
  cases d with
  | plain => rfl
  | _ => exact (Bool.false_ne_true h).elim
noncomputable def kindQ (v : Value) : Nat := match v with | .str _ _ => 1 | .int _ _ => 2 | .bool _ => 3 | _ => 0
theorem str_ex {v : Value} (h : kindQ v = 1) : ∃ a b, v = .str a b := by
  cases v with
  | str a b => exact ⟨a, b, rfl⟩
  | _ => exact (nz h rfl).elim
theorem int_ex {v : Value} (h : kindQ v = 2) : ∃ a b, v = .int a b := by
  cases v with
  | int a b => exact ⟨a, b, rfl⟩
  | _ => exact (nz h rfl).elim
theorem bool_ex {v : Value} (h : kindQ v = 3) : ∃ a, v = .bool a := by
  cases v with
  | bool a => exact ⟨a, rfl⟩
  | _ => exact (nz h rfl).elim
noncomputable def codeShape (P : Addr) (o : Obj) : Bool := o.cls == .type "code" && (fieldsQ o.data).any fun vs => vs[11]? == some (.ref P) && (kindQ (vs.getD 18 .none) == 1 && (kindQ (vs.getD 7 .none) == 2 && (kindQ (vs.getD 9 .none) == 3 && kindQ (vs.getD 10 .none) == 2)))
noncomputable def modShape (o : Obj) : Bool := o.cls == .type "module" && (o.dict == some builtinsNs && plainQ o.data)

theorem any_ex {α : Type} {o : Option α} {p : α → Bool} (h : o.any p = true) : ∃ a, o = some a ∧ p a = true := by
  cases o with
  | none => cases h
  | some a => exact ⟨a, rfl, h⟩
theorem and_ex {a b : Bool} (h : (a && b) = true) : a = true ∧ b = true := Bool.and_eq_true_iff.mp h
theorem tab_of {h : Heap} {c P : Addr} {o : Obj} (e : h.get? c = some o) (hs : codeShape P o = true) (eP : h.get? P = some (tableObj #[])) (hne : c ≠ P) : Tab h c P := by
  obtain ⟨hc, hs⟩ := and_ex hs
  obtain ⟨vs, hd, hs⟩ := any_ex hs
  have hd := fields_ex hd
  have hc := beq_iff_eq.mp hc
  obtain ⟨h11, hs⟩ := and_ex hs
  have h11 := beq_iff_eq.mp h11
  obtain ⟨q18, hs⟩ := and_ex hs
  obtain ⟨q7, hs⟩ := and_ex hs
  obtain ⟨q9, q10⟩ := and_ex hs
  obtain ⟨_, _, h18⟩ := str_ex (beq_iff_eq.mp q18)
  obtain ⟨_, _, h7⟩ := int_ex (beq_iff_eq.mp q7)
  obtain ⟨_, h9⟩ := bool_ex (beq_iff_eq.mp q9)
  obtain ⟨_, _, h10⟩ := int_ex (beq_iff_eq.mp q10)
  exact ⟨#[], ⟨o, vs, _, _, _, _, _, _, _, _, e, hd, by rw [Array.getD_eq_getD_getElem?, h11]; rfl, h18, h7, h9, h10, eP, rfl, trivial, hne⟩, ⟨o, vs, e, hc, hd, h11⟩, eP⟩

theorem fin_gx {w : World} {h : Heap} {mb : Str → Option Value} (KX : (hd.heap_261 w.params).In h) (b : h.Ns builtinsNs mb) (bb : ∀ x : Str, x ≠ "__name__" → mb x = bootBuiltins x) : Gx w h := by
  have hM : ((hd.heap_261 w.params).lookup 4).map modShape = some true := by kernel_rfl
  have h140 : (hd.heap_261 w.params).lookup 140 = some (tableObj #[]) := by kernel_rfl
  have h147 : (hd.heap_261 w.params).lookup 147 = some (tableObj #[]) := by kernel_rfl
  have c144 : ((hd.heap_261 w.params).lookup 144).map (codeShape 140) = some true := by kernel_rfl
  have c151 : ((hd.heap_261 w.params).lookup 151).map (codeShape 147) = some true := by kernel_rfl
  obtain ⟨o4, e4, m4⟩ := Option.map_eq_some_iff.mp hM
  obtain ⟨o1, e1, m1⟩ := Option.map_eq_some_iff.mp c144
  obtain ⟨o2, e2, m2⟩ := Option.map_eq_some_iff.mp c151
  refine ⟨⟨fun a o e => KX a o (lookup_filter (q := fun n => n != 140 && n != 147) (by rw [← show (KK w.params) = _ from KK_eq w.params]; exact e)), ⟨mb, b, bb⟩, ⟨o4, KX _ _ e4, ?_⟩⟩, tab_of (KX _ _ e1) m1 (KX _ _ h140) (by decide), tab_of (KX _ _ e2) m2 (KX _ _ h147) (by decide)⟩
  obtain ⟨q1, q2⟩ := and_ex m4
  obtain ⟨q2, q3⟩ := and_ex q2
  exact ⟨beq_iff_eq.mp q1, beq_iff_eq.mp q2, plain_ex q3⟩
theorem fin_tab {w : World} {h : Heap} (KX : (hd.heap_261 w.params).In h) : h.get? 140 = some (tableObj #[]) ∧ h.get? 147 = some (tableObj #[]) := ⟨KX _ _ (by kernel_rfl), KX _ _ (by kernel_rfl)⟩
theorem fin_law {w : World} {h : Heap} {mg : Str → Option Value} (KX : (hd.heap_261 w.params).In h) (b : h.Ns mainGlobals mg) {fa : Addr} (e : mg "law" = some (.ref fa)) : fa = 239 := by
  have e1 := mg_of KX b (n := "law") (v := .ref 239) (by kernel_rfl)
  rw [e] at e1
  cases e1
  rfl

theorem fin_old {w : World} {s s' : Shared} (go : Go tabs s s') (gx : Gx w s.heap) (gx' : Gx w s'.heap) (h140 : s.heap.get? 140 = some (tableObj #[])) (h147 : s.heap.get? 147 = some (tableObj #[])) : OldK s.heap s'.heap := by
  have one : ∀ (c P : Addr), Tab s.heap c P → Tab s'.heap c P → s.heap.get? P = some (tableObj #[]) → ∀ o, s.heap.get? P = some o → asItWas s.heap s'.heap P o := by
    intro c P t t' e o eo
    rw [e] at eo
    cases eo
    obtain ⟨ps, _, tt⟩ := t
    obtain ⟨ps', e'⟩ := t'.at
    exact .inr (.inl ⟨tt.isCodeTable, rfl, #[], ps', rfl, by rw [Array.empty_append]; exact e'⟩)
  refine ⟨fun b o e => ?_, fun b o e => ?_⟩
  · by_cases h1 : b = 140
    · subst h1; exact one _ _ gx.t1 gx'.t1 h140 o e
    · by_cases h2 : b = 147
      · subst h2; exact one _ _ gx.t2 gx'.t2 h147 o e
      · exact .inl (go.heap.keep _ _ (by simp only [tabs, List.mem_cons, List.not_mem_nil, or_false, not_or]; exact ⟨h1, h2⟩) e)
  · by_cases h1 : b = 140
    · subst h1; exact let ⟨ps, e'⟩ := gx'.t1.at; ⟨_, e'⟩
    · by_cases h2 : b = 147
      · subst h2; exact let ⟨ps, e'⟩ := gx'.t2.at; ⟨_, e'⟩
      · exact ⟨_, go.heap.keep _ _ (by simp only [tabs, List.mem_cons, List.not_mem_nil, or_false, not_or]; exact ⟨h1, h2⟩) e⟩

theorem ivs_of {vs : List Value} {ns : List Int} (h : IntsAre vs ns) : ∃ xs : List (Int × Tok), vs = ivs xs ∧ xs.map (·.1) = ns := by
  induction h with
  | nil => exact ⟨[], rfl, rfl⟩
  | cons n t _ ih =>
    obtain ⟨xs, rfl, r⟩ := ih
    exact ⟨(n, t) :: xs, rfl, by rw [List.map_cons, r]⟩

theorem lv_caller : Lv 12 callerA := ⟨by decide, by decide, rfl⟩

theorem fin_call {w : World} {s : Shared} {vs : List Value} {ns : List Int} {Q : Value → Shared → Prop} {E : Value → Shared → Prop} (hp : ∀ (xs : List (Int × Tok)) (m : Nat), 1 ≤ m → m ≤ 3 → Plain m (numsOf3 xs)) (gx : Gx w s.heap) (hS : s.heap.IsList 240 vs.toArray) (hi : IntsAre vs ns) (hn : ¬ ((63 : Nat) : Int) < ((ns.length : Nat) : Int))
    (ret : ∀ s', Go tabs s s' → Gx w s'.heap → Q (.bool true) s') : wpAny (model Pg w) callerA (call (.ref 239) [.ref 240]) Q E s := by
  obtain ⟨xs, rfl, rfl⟩ := ivs_of hi
  exact wpAny_call (law_ct gx lv_caller hS (by decide) (by rw [List.length_map] at hn; omega) (hp xs) fun s' go gx' => ret s' go gx')
end Mine.Internal
end

section
set_option maxRecDepth 100000
set_option maxHeartbeats 4000000
set_option linter.unusedVariables false
namespace Mine.Internal
open PySem

/-! ### the places of a number's bits -/
theorem placesF_eq (f n : Nat) (h : n ≤ f) : placesOf n = placesF f n := placesF_more _ _ _ (Nat.le_refl _) h
theorem placesF_bits : ∀ n, n < 128 → placesF 128 n = places7.filter fun p => n / 2 ^ p % 2 == 1 := by decide +kernel
theorem places_bits (n : Nat) (h : n < 128) : placesOf n = places7.filter fun p => n / 2 ^ p % 2 == 1 := by
  rw [placesF_eq 128 n (by omega), placesF_bits n h]
theorem mem_places (n p : Nat) (h : n < 128) (hp : p ≤ 6) : p ∈ placesOf n ↔ n / 2 ^ p % 2 = 1 := by
  rw [places_bits n h, List.mem_filter]
  have : p ∈ places7 := (by decide : ∀ p, p < 7 → p ∈ places7) p (Nat.lt_succ_of_le hp)
  simp [this]
theorem single_bits : ∀ n : Nat, n < 128 → 0 < n → (Builtin.bitAnd (n : Int) ((n : Int) - 1) == 0) = (((places7.filter fun p => n / 2 ^ p % 2 == 1).length : Int) == 1) := by decide +kernel

/-! ### how often two goes into a number -/
noncomputable def V (n k : Nat) : Prop := ∃ u, n = 2 ^ k * (2 * u + 1)
theorem V.mul {a b i j : Nat} (x : V a i) (y : V b j) : V (a * b) (i + j) := by
  obtain ⟨u, rfl⟩ := x
  obtain ⟨v, rfl⟩ := y
  refine ⟨2 * u * v + u + v, ?_⟩
  have e : (2 * u + 1) * (2 * v + 1) = 2 * (2 * u * v + u + v) + 1 := by
    simp only [Nat.add_mul, Nat.mul_add, Nat.mul_assoc, Nat.mul_left_comm, Nat.mul_comm]
    omega
  rw [Nat.pow_add, ← e]
  simp only [Nat.mul_assoc, Nat.mul_left_comm, Nat.mul_comm]
theorem V.lt {n i j : Nat} (x : V n i) (y : V n j) : ¬ i < j := by
  intro h
  obtain ⟨u, hu⟩ := x
  obtain ⟨v, hv⟩ := y
  obtain ⟨d, rfl⟩ : ∃ d, j = i + (d + 1) := ⟨j - i - 1, by rw [Nat.sub_add_cancel (Nat.sub_pos_of_lt h), Nat.add_sub_cancel' (Nat.le_of_lt h)]⟩
  have e : 2 ^ i * (2 * u + 1) = 2 ^ i * (2 * (2 ^ d * (2 * v + 1))) := by
    rw [← hu, hv, Nat.pow_add, Nat.pow_succ]
    simp only [Nat.mul_assoc, Nat.mul_left_comm, Nat.mul_comm]
  have := Nat.eq_of_mul_eq_mul_left (Nat.two_pow_pos i) e
  omega
theorem V.unique {n i j : Nat} (x : V n i) (y : V n j) : i = j := by
  have h1 := x.lt y
  have h2 := y.lt x
  omega
theorem V.exists : ∀ n, 0 < n → ∃ k, V n k := by
  intro n
  induction n using Nat.strongRecOn with
  | ind n ih =>
    intro h
    by_cases hp : n % 2 = 1
    · exact ⟨0, n / 2, by simp; omega⟩
    · obtain ⟨k, u, hk⟩ := ih (n / 2) (by omega) (by omega)
      refine ⟨k + 1, u, ?_⟩
      rw [Nat.pow_succ, Nat.mul_right_comm, ← hk]
      omega

theorem and_pred (k u : Nat) : (2 ^ k * (2 * u + 1)) &&& (2 ^ k * (2 * u + 1) - 1) = 2 ^ (k + 1) * u := by
  have h2 := Nat.two_pow_pos k
  have hlt : 2 ^ k < 2 ^ (k + 1) := Nat.pow_lt_pow_right (by decide) (Nat.lt_succ_self k)
  have e1 : 2 ^ k * (2 * u + 1) = 2 ^ (k + 1) * u + 2 ^ k := by
    rw [Nat.pow_succ, Nat.mul_add, Nat.mul_one, Nat.mul_assoc]
  have e2 : 2 ^ k * (2 * u + 1) - 1 = 2 ^ (k + 1) * u + (2 ^ k - 1) := by rw [e1]; exact Nat.add_sub_assoc h2 _
  rw [e2, e1]
  apply Nat.eq_of_testBit_eq
  intro j
  rw [Nat.testBit_and, Nat.testBit_two_pow_mul_add _ hlt, Nat.testBit_two_pow_mul_add _ (Nat.lt_of_le_of_lt (Nat.sub_le _ _) hlt), Nat.testBit_two_pow_mul]
  by_cases hj : j < k + 1
  · rw [if_pos hj, if_pos hj, Nat.testBit_two_pow, Nat.testBit_two_pow_sub_one]
    rw [show decide (j ≥ k + 1) = false from decide_eq_false (Nat.not_le.mpr hj), Bool.false_and]
    by_cases h : k = j
    · rw [show decide (j < k) = false from decide_eq_false fun q => Nat.lt_irrefl j (h ▸ q), Bool.and_false]
    · rw [show decide (k = j) = false from decide_eq_false h, Bool.false_and]
  · rw [if_neg hj, if_neg hj, Bool.and_self]
    rw [show decide (j ≥ k + 1) = true from decide_eq_true (Nat.not_lt.mp hj), Bool.true_and]
theorem xp1 {n a b c : Nat} (e1 : n = a + b) (e3 : c = 2 * b) (h2 : 0 < b) : (n : Int) + ((n : Int) - 1) - 2 * ((a : Nat) : Int) = ((c - 1 : Nat) : Int) := by omega
theorem xp2 {b c : Nat} (e3 : c = 2 * b) (h2 : 0 < b) : c - 1 ≠ 0 ∧ c - 1 < c ∧ b ≤ c - 1 := by
  have q2 : b ≤ c - 1 := Nat.le_sub_of_add_le (e3 ▸ Nat.two_mul b ▸ Nat.add_le_add_left h2 b)
  have q0 : 0 < c - 1 := Nat.lt_of_lt_of_le h2 q2
  exact ⟨Nat.ne_of_gt q0, Nat.sub_lt (Nat.lt_of_lt_of_le q0 (Nat.sub_le _ _)) Nat.one_pos, q2⟩
theorem xor_pred {n k : Nat} (h : V n k) : (Builtin.Int.intBits (Builtin.bitXor (n : Int) ((n : Int) - 1)) : Nat) = k + 1 := by
  obtain ⟨u, hu⟩ := h
  have h2 := Nat.two_pow_pos k
  have hn : 1 ≤ n := by
    rw [hu]
    exact Nat.mul_pos h2 (Nat.succ_pos _)
  have ha : Builtin.bitAnd (n : Int) ((n : Int) - 1) = ((2 ^ (k + 1) * u : Nat) : Int) := by
    unfold Builtin.bitAnd
    have d1 : decide ((0 : Int) ≤ (n : Int)) = true := by simp
    have d2 : decide ((0 : Int) ≤ (n : Int) - 1) = true := decide_eq_true (Int.sub_nonneg_of_le (Int.ofNat_le.mpr hn))
    rw [d1, d2]
    show ((((n : Int)).toNat &&& ((n : Int) - 1).toNat : Nat) : Int) = _
    rw [show ((n : Int)).toNat = n by simp, show ((n : Int) - 1).toNat = n - 1 from Int.toNat_sub n 1, hu, and_pred]
  have hx : Builtin.bitXor (n : Int) ((n : Int) - 1) = ((2 ^ (k + 1) - 1 : Nat) : Int) := by
    rw [PyProof.Rows.bitXor_and, ha]
    have e1 : n = 2 ^ (k + 1) * u + 2 ^ k := by
      rw [hu, Nat.pow_succ, Nat.mul_add, Nat.mul_one, Nat.mul_assoc]
    exact xp1 e1 (by rw [Nat.pow_succ, Nat.mul_comm]) h2
  rw [hx]
  unfold Builtin.Int.intBits
  obtain ⟨hne', q1, q2⟩ := xp2 (show 2 ^ (k + 1) = 2 * 2 ^ k by rw [Nat.pow_succ, Nat.mul_comm]) h2
  have hne : ((((2 ^ (k + 1) - 1 : Nat) : Int)) == 0) = false := by
    rw [beq_eq_false_iff_ne]
    exact fun z => hne' (Int.ofNat.inj z)
  rw [hne, if_neg (by decide), Int.natAbs_natCast]
  congr 1
  have l1 : (2 ^ (k + 1) - 1).log2 < k + 1 := (Nat.log2_lt hne').mpr q1
  have l2 : k ≤ (2 ^ (k + 1) - 1).log2 := (Nat.le_log2 hne').mpr q2
  exact Nat.le_antisymm (Nat.le_of_lt_succ l1) l2

/-! ### ways to deal things out -/
noncomputable def fac : Nat → Nat
  | 0 => 1
  | n + 1 => (n + 1) * fac n
noncomputable def ch : Nat → Nat → Nat
  | _, 0 => 1
  | 0, _ + 1 => 0
  | n + 1, k + 1 => ch n k + ch n (k + 1)
theorem ch_zero (n : Nat) : ch n 0 = 1 := by cases n <;> rfl
theorem ch_abs : ∀ n k : Nat, (k + 1) * ch (n + 1) (k + 1) = (n + 1) * ch n k := by
  intro n
  induction n with
  | zero =>
    intro k
    cases k <;> rfl
  | succ n ch_abs =>
   intro k
   cases k with
   | zero =>
    have ih := ch_abs 0
    rw [ch_zero] at ih
    show (0 + 1) * (ch (n + 1) 0 + ch (n + 1) (0 + 1)) = (n + 1 + 1) * ch (n + 1) 0
    rw [ch_zero]
    omega
   | succ k =>
    have i1 := ch_abs k
    have i2 := ch_abs (k + 1)
    have e : ch (n + 1) (k + 1) = ch n k + ch n (k + 1) := rfl
    show (k + 1 + 1) * (ch (n + 1) (k + 1) + ch (n + 1) (k + 1 + 1)) = (n + 1 + 1) * ch (n + 1) (k + 1)
    rw [Nat.mul_add, i2, Nat.add_mul (k + 1) 1, i1, Nat.one_mul, Nat.add_mul (n + 1) 1, Nat.one_mul]
    have : (n + 1) * ch (n + 1) (k + 1) = (n + 1) * ch n k + (n + 1) * ch n (k + 1) := by rw [e, Nat.mul_add]
    omega
theorem ch_fac (a : Nat) : ∀ b, ch (a + b) b * fac a * fac b = fac (a + b) := by
  intro b
  induction b with
  | zero => rw [ch_zero]; simp [fac]
  | succ b ih =>
    have h := ch_abs (a + b) b
    show ch (a + b + 1) (b + 1) * fac a * ((b + 1) * fac b) = (a + b + 1) * fac (a + b)
    rw [← ih]
    have : ch (a + b + 1) (b + 1) * fac a * ((b + 1) * fac b) = ((b + 1) * ch (a + b + 1) (b + 1)) * fac a * fac b := by
      simp only [Nat.mul_assoc, Nat.mul_left_comm, Nat.mul_comm]
    rw [this, h]
    simp only [Nat.mul_assoc]
theorem wIn_ch (w t : Nat) : ∀ j, (List.range' 1 j).foldl wIn (w, t) = (w * ch (t + j) j, t + j) := by
  intro j
  induction j with
  | zero => simp [ch_zero]
  | succ j ih =>
    rw [List.range'_1_concat, List.foldl_append, ih]
    show (w * ch (t + j) j * (t + j + 1) / (1 + j), t + j + 1) = _
    have h := ch_abs (t + j) j
    have e : w * ch (t + j) j * (t + j + 1) = w * ch (t + (j + 1)) (j + 1) * (1 + j) := by
      rw [Nat.mul_assoc, Nat.mul_comm (ch (t + j) j), ← h, Nat.mul_assoc, Nat.add_comm j 1, Nat.mul_comm (1 + j)]
      rw [show t + (1 + j) = t + j + 1 by omega]
    rw [e, Nat.mul_div_cancel _ (by omega)]
    rfl
noncomputable def facs (ns : List Nat) : Nat := (ns.map fac).foldl (· * ·) 1
theorem fac_pos : ∀ n, 0 < fac n
  | 0 => Nat.one_pos
  | n + 1 => Nat.mul_pos (Nat.succ_pos n) (fac_pos n)
theorem ways_fold (ns : List Nat) : ∀ (w t F : Nat), w * F = fac t → ((ns.foldl wNum (w, t)).1 * (ns.foldl (fun F n => F * fac n) F) = fac (t + ns.sum)) := by
  induction ns with
  | nil => intro w t F h; simpa using h
  | cons n r ih =>
    intro w t F h
    rw [List.foldl_cons, List.foldl_cons, List.sum_cons]
    unfold wNum
    rw [wIn_ch]
    have := ih (w * ch (t + n) n) (t + n) (F * fac n) (by
      rw [← ch_fac t n]
      have : w * ch (t + n) n * (F * fac n) = ch (t + n) n * (w * F) * fac n := by
        simp only [Nat.mul_assoc, Nat.mul_left_comm, Nat.mul_comm]
      rw [this, h])
    rw [Nat.add_assoc] at this
    exact this

noncomputable def two (N : Nat) : Nat := N / 2 + N / 4 + N / 8 + N / 16 + N / 32 + N / 64
theorem two_step : ∀ N, N < 127 → two N ≤ two (N + 1) ∧ N + 1 = 2 ^ (two (N + 1) - two N) * (2 * ((N + 1) / 2 ^ (two (N + 1) - two N) / 2) + 1) := by decide +kernel
theorem V_fac : ∀ N, N < 128 → V (fac N) (two N)
  | 0, _ => ⟨0, rfl⟩
  | N + 1, h => by
    have ih := V_fac N (by (first | with_reducible exact om_lt (by assumption) | omega))
    obtain ⟨h1, h2⟩ := two_step N (by omega)
    have := V.mul (⟨_, h2⟩ : V (N + 1) (two (N + 1) - two N)) ih
    rw [Nat.sub_add_cancel h1] at this
    exact this
theorem V_facs (ns : List Nat) : ∀ (F k : Nat), V F k → (∀ n ∈ ns, n < 128) → V (ns.foldl (fun F n => F * fac n) F) (k + (ns.map two).sum) := by
  induction ns with
  | nil => intro F k h _; simpa using h
  | cons n r ih =>
    intro F k h hn
    rw [List.foldl_cons, List.map_cons, List.sum_cons, ← Nat.add_assoc]
    exact ih _ _ (h.mul (V_fac n (hn n (List.mem_cons_self ..)))) fun x hx => hn x (List.mem_cons_of_mem _ hx)

theorem kummer (ns : List Nat) (hs : ns.sum < 128) (hn : ∀ n ∈ ns, n < 128) :
    ((Builtin.Int.intBits (Builtin.bitXor (waysOf ns : Int) ((waysOf ns : Int) - 1)) : Nat) - 1 : Int) = (two ns.sum : Int) - ((ns.map two).sum : Int) := by
  have h := ways_fold ns 1 0 1 rfl
  rw [Nat.zero_add] at h
  have hw : 0 < waysOf ns := by
    have := fac_pos ns.sum
    rw [← h] at this
    exact Nat.pos_of_mul_pos_right this
  obtain ⟨k, hk⟩ := V.exists _ hw
  have h1 := V_facs ns 1 0 ⟨0, rfl⟩ hn
  rw [Nat.zero_add] at h1
  have h2 : V (fac ns.sum) (k + (ns.map two).sum) := by
    rw [← h]
    exact hk.mul h1
  have h3 := h2.unique (V_fac _ hs)
  rw [xor_pred hk]
  omega
end Mine.Internal
end

section
set_option maxRecDepth 100000
set_option maxHeartbeats 4000000
set_option linter.unusedVariables false
namespace Mine.Internal
open PySem

/-! ### the greedy filling of rows, by the sums alone -/
noncomputable def sstep (W : Nat) (st : List Nat × Nat) (b : Nat) : List Nat × Nat := if W < st.2 + b ∧ st.2 ≠ 0 then (st.1 ++ [st.2], b) else (st.1, st.2 + b)
noncomputable def sums (W : Nat) (bs : List Nat) : List Nat × Nat := bs.foldl (sstep W) ([], 0)

inductive St (W : Nat) (G : List Nat) (q r : Nat) : List Nat × Nat → Prop
  | start : G = [] → q = 0 → r = 0 → St W G q r ([], 0)
  | full (d : List Nat) (c : Nat) : r = 0 → d ++ [c] = G ++ List.replicate q W → W ≤ c → c ≠ 0 → St W G q r (d, c)
  | part (d : List Nat) : 0 < r → r < W → d = G ++ List.replicate q W → St W G q r (d, r)

theorem St.great {W : Nat} {G : List Nat} {st : List Nat × Nat} {b : Nat} (h : St W G 0 0 st) (hb : W < b) : St W (G ++ [b]) 0 0 (sstep W st b) := by
  cases h with
  | start h1 h2 h3 =>
    subst h1
    unfold sstep
    rw [if_neg (by simp)]
    exact .full _ _ rfl (by simp) (by simp; omega) (by simp; omega)
  | full d c h1 h2 h3 h4 =>
    unfold sstep
    rw [if_pos ⟨by show W < c + b; omega, h4⟩]
    refine .full _ _ rfl ?_ (by omega) (by omega)
    simp only [List.replicate_zero, List.append_nil] at h2 ⊢
    show d ++ [c] ++ [b] = _
    rw [h2]
  | part d h1 => exact absurd h1 (by omega)

theorem St.small {W : Nat} {G : List Nat} {q r : Nat} {st : List Nat × Nat} {b : Nat} (h : St W G q r st) (h0 : 0 < b) (hb : b ≤ W) (hr : r + b ≤ W) (hdr : r < W) :
    (r + b < W → St W G q (r + b) (sstep W st b)) ∧ (r + b = W → St W G (q + 1) 0 (sstep W st b)) := by
  cases h with
  | start h1 h2 h3 =>
    subst h1 h2 h3
    unfold sstep
    rw [if_neg (by simp)]
    constructor
    · intro hlt
      have := St.part (G := []) (q := 0) (W := W) (r := 0 + b) [] (by omega) hlt rfl
      simpa using this
    · intro he
      exact .full _ _ rfl (by simp; omega) (by simp; omega) (by simp; omega)
  | full d c h1 h2 h3 h4 =>
    subst h1
    unfold sstep
    rw [if_pos ⟨by show W < c + b; omega, h4⟩]
    constructor
    · intro hlt
      have := St.part (G := G) (q := q) (W := W) (r := 0 + b) (d ++ [c]) (by omega) hlt h2
      simpa using this
    · intro he
      refine .full _ _ rfl ?_ (by omega) (by omega)
      show d ++ [c] ++ [b] = _
      have hbW : b = W := by omega
      rw [h2, List.append_assoc, hbW, List.replicate_succ']
  | part d h1 h2 h3 =>
    unfold sstep
    rw [if_neg (by rintro ⟨h, _⟩; exact absurd (show W < r + b from h) (by omega))]
    constructor
    · intro hlt
      exact .part d (by omega) hlt h3
    · intro he
      refine .full _ _ rfl ?_ (by show W ≤ r + b; omega) (by show r + b ≠ 0; omega)
      show d ++ [r + b] = _
      rw [h3, he, List.append_assoc, List.replicate_succ']

inductive Falls : List Nat → Prop
  | nil : Falls []
  | snoc (l : List Nat) (k : Nat) : Falls l → (∀ x ∈ l, 2 ^ k ∣ x) → (∀ x ∈ l, 2 ^ k ≤ x) → Falls (l ++ [2 ^ k])

theorem sums_snoc (W : Nat) (l : List Nat) (b : Nat) : sums W (l ++ [b]) = sstep W (sums W l) b := by
  unfold sums; rw [List.foldl_append]; rfl
theorem dvd_sum {b : Nat} : ∀ {l : List Nat}, (∀ x ∈ l, b ∣ x) → b ∣ l.sum
  | [], _ => ⟨0, rfl⟩
  | x :: l, h => by
    rw [List.sum_cons]
    exact Nat.dvd_add (h x (List.mem_cons_self ..)) (dvd_sum fun y hy => h y (List.mem_cons_of_mem _ hy))

theorem greedy {p : Nat} {l : List Nat} (h : Falls l) : St (2 ^ p) (l.filter (2 ^ p < ·)) ((l.filter (· ≤ 2 ^ p)).sum / 2 ^ p) ((l.filter (· ≤ 2 ^ p)).sum % 2 ^ p) (sums (2 ^ p) l) := by
  have hW := Nat.two_pow_pos p
  induction h with
  | nil => exact .start rfl (by simp) (by simp)
  | snoc l k hf hd hle ih =>
    rw [sums_snoc, List.filter_append, List.filter_append, List.sum_append]
    have hb := Nat.two_pow_pos k
    by_cases hg : 2 ^ p < 2 ^ k
    · have hall : l.filter (· ≤ 2 ^ p) = [] := by
        rw [List.filter_eq_nil_iff]
        intro x hx
        have := hle x hx
        simp; omega
      have e1 : [2 ^ k].filter (2 ^ p < ·) = [2 ^ k] := by simp [hg]
      have e2 : [2 ^ k].filter (· ≤ 2 ^ p) = [] := by simp [hg]
      rw [hall] at ih ⊢
      rw [e1, e2]
      simp only [List.sum_nil, Nat.zero_div, Nat.zero_mod, Nat.add_zero] at ih ⊢
      exact ih.great hg
    · have hle' : 2 ^ k ≤ 2 ^ p := by omega
      have hkp : k ≤ p := (Nat.pow_le_pow_iff_right (by decide)).mp hle'
      have hdW : 2 ^ k ∣ 2 ^ p := Nat.pow_dvd_pow 2 hkp
      have e1 : [2 ^ k].filter (2 ^ p < ·) = [] := by simp [hle']
      have e2 : [2 ^ k].filter (· ≤ 2 ^ p) = [2 ^ k] := by simp [hle']
      rw [e1, e2, List.append_nil, List.sum_singleton]
      generalize hS : (l.filter (· ≤ 2 ^ p)).sum = S at ih ⊢
      have hdS : 2 ^ k ∣ S := by
        rw [← hS]
        exact dvd_sum fun x hx => hd x (List.mem_filter.mp hx).1
      have hdr : 2 ^ k ∣ S % 2 ^ p := (Nat.dvd_mod_iff hdW).mpr hdS
      have hrW : S % 2 ^ p < 2 ^ p := Nat.mod_lt _ hW
      have hroom : S % 2 ^ p + 2 ^ k ≤ 2 ^ p := by
        obtain ⟨a, ha⟩ := hdr
        obtain ⟨c, hc⟩ := hdW
        rw [ha, hc] at hrW ⊢
        have hac : a < c := Nat.lt_of_mul_lt_mul_left hrW
        calc 2 ^ k * a + 2 ^ k = 2 ^ k * (a + 1) := by rw [Nat.mul_add, Nat.mul_one]
          _ ≤ 2 ^ k * c := Nat.mul_le_mul_left _ hac
      have key := ih.small hb hle' hroom hrW
      have hdiv := Nat.div_add_mod S (2 ^ p)
      by_cases hlt : S % 2 ^ p + 2 ^ k < 2 ^ p
      · have := key.1 hlt
        have q1 : (S + 2 ^ k) / 2 ^ p = S / 2 ^ p := by
          rw [← hdiv, Nat.add_assoc, Nat.mul_add_div hW, Nat.div_eq_of_lt hlt, Nat.add_zero, hdiv]
        have q2 : (S + 2 ^ k) % 2 ^ p = S % 2 ^ p + 2 ^ k := by
          have : (S + 2 ^ k) % 2 ^ p = (2 ^ p * (S / 2 ^ p) + (S % 2 ^ p + 2 ^ k)) % 2 ^ p := by rw [← Nat.add_assoc, hdiv]
          rw [this, Nat.mul_add_mod, Nat.mod_eq_of_lt hlt]
        rw [q1, q2]
        exact this
      · have he : S % 2 ^ p + 2 ^ k = 2 ^ p := by (first | with_reducible exact om_eqn (by assumption) (by assumption) | omega)
        have := key.2 he
        have e3 : S + 2 ^ k = 2 ^ p * (S / 2 ^ p + 1) := by
          rw [Nat.mul_add, Nat.mul_one]; omega
        rw [e3, Nat.mul_div_cancel_left _ hW, Nat.mul_mod_right]
        exact this

theorem St.end {W : Nat} {G : List Nat} {q r : Nat} {st : List Nat × Nat} (h : St W G q r st) (hne : st.2 ≠ 0) : st.1 ++ [st.2] = G ++ List.replicate q W ++ if 0 < r then [r] else [] := by
  cases h with
  | start => exact absurd rfl hne
  | full d c h1 h2 h3 h4 => subst h1; rw [if_neg (by decide), List.append_nil]; exact h2
  | part d h1 h2 h3 => rw [if_pos h1, h3]
end Mine.Internal
end

section
set_option maxRecDepth 100000
set_option maxHeartbeats 4000000
set_option linter.unusedVariables false
namespace Mine.Internal
open PySem

noncomputable def bitsAt (b : Nat) (ns : List Nat) : List Nat := ns.filterMap fun n => if n / b % 2 = 1 then some b else none
noncomputable def bitsOf (ns : List Nat) : List Nat := bits5.flatMap fun b => bitsAt b ns

theorem fm_congr {α β : Type} {f g : α → Option β} : ∀ {l : List α}, (∀ x ∈ l, f x = g x) → l.filterMap f = l.filterMap g := by
  intro l h
  induction l with
  | nil => rfl
  | cons x l ih => rw [List.filterMap_cons, List.filterMap_cons, h x (.head _), ih fun y hy => h y (.tail _ hy)]

/-! ### words and bits -/
theorem range_getD (l : List Nat) : (List.range l.length).map (fun k => l.getD k 0) = l := by
  apply List.ext_getElem?
  intro i
  rw [List.getElem?_map]
  by_cases h : i < l.length
  · rw [List.getElem?_range h]
    simp [List.getD, h]
  · rw [List.getElem?_eq_none (by simpa using h), List.getElem?_eq_none (by omega)]
    rfl
theorem wordsAt_wt (m p : Nat) (ns : List Nat) (hn : ∀ n ∈ ns, n < 128) (hp : p ≤ 6) : (wordsAt m p ns).map (fun x => m + x.length) = (bitsAt (2 ^ p) ns).map fun b => (m + 1) * b := by
  unfold wordsAt bitsAt
  rw [List.map_filterMap, List.map_filterMap]
  conv => rhs; rw [← range_getD ns]
  rw [List.filterMap_map]
  apply fm_congr
  intro k hk
  have hk' : k < ns.length := List.mem_range.mp hk
  have hm : ns.getD k 0 < 128 := by
    rw [List.getD, List.getElem?_eq_getElem hk']
    exact hn _ (List.getElem_mem hk')
  have h1 : m ≤ (m + 1) * 2 ^ p := Nat.le_trans (Nat.le_succ m) (Nat.le_mul_of_pos_right _ (Nat.two_pow_pos p))
  show Option.map _ (if p ∈ placesOf (ns.getD k 0) then _ else _) = Option.map _ (if ns.getD k 0 / 2 ^ p % 2 = 1 then _ else _)
  by_cases h : ns.getD k 0 / 2 ^ p % 2 = 1
  · rw [if_pos h, if_pos ((mem_places _ p hm hp).mpr h)]
    simp only [Option.map_some, wd_len]
    exact congrArg some (Nat.add_sub_cancel' h1)
  · rw [if_neg h, if_neg fun q => h ((mem_places _ p hm hp).mp q)]
    rfl
theorem words_wt (m : Nat) (ns : List Nat) (hn : ∀ n ∈ ns, n < 128) : (wordsOf m ns).map (fun x => m + x.length) = (bitsOf ns).map fun b => (m + 1) * b := by
  unfold wordsOf bitsOf bits5
  simp only [List.flatMap_cons, List.flatMap_nil, List.append_nil, List.map_append]
  rw [wordsAt_wt m 4 ns hn (by decide), wordsAt_wt m 3 ns hn (by decide), wordsAt_wt m 2 ns hn (by decide), wordsAt_wt m 1 ns hn (by decide), wordsAt_wt m 0 ns hn (by decide)]
theorem wordsAt_gw (m p : Nat) (ns : List Nat) (hl : ns.length ≤ 5) (hm : 1 ≤ m ∧ m ≤ 3) (hp : p ≤ 4) : ∀ x ∈ wordsAt m p ns, Gw x := by
  intro x hx
  unfold wordsAt at hx
  rw [List.mem_filterMap] at hx
  obtain ⟨k, hk, he⟩ := hx
  have hk' : k < ns.length := List.mem_range.mp hk
  split at he
  · cases he
    have h16 : 2 ^ p ≤ 2 ^ 4 := Nat.pow_le_pow_right (by decide) hp
    have h0 := Nat.two_pow_pos p
    have hle : (m + 1) * 2 ^ p ≤ 4 * 2 ^ 4 := Nat.mul_le_mul (by omega) h16
    have hge : m + 1 ≤ (m + 1) * 2 ^ p := Nat.le_mul_of_pos_right _ h0
    refine ⟨by rw [wd_len]; omega, by rw [wd_len]; exact Nat.le_trans (Nat.sub_le _ _) (Nat.le_trans hle (by decide)), fun c hc => ?_⟩
    have : c = 97 + k := by
      unfold wd at hc
      exact (List.mem_replicate.mp hc).2
    omega
  · cases he
theorem words_gw (m : Nat) (ns : List Nat) (hl : ns.length ≤ 5) (hm : 1 ≤ m ∧ m ≤ 3) : ∀ x ∈ wordsOf m ns, Gw x := by
  intro x hx
  unfold wordsOf at hx
  rw [List.mem_flatMap] at hx
  obtain ⟨p, hp, hx⟩ := hx
  refine wordsAt_gw m p ns hl hm ?_ x hx
  simp only [List.mem_cons, List.not_mem_nil, or_false] at hp
  omega

/-! ### pages and sums -/
noncomputable def Rel (m : Nat) (st : List (List Str) × List Str) (ss : List Nat × Nat) : Prop :=
  st.1.map (fitS (gp m)) = ss.1.map (fun z => (m + 1) * z) ∧ fitS (gp m) st.2 = (m + 1) * ss.2 ∧ (st.2 = [] ↔ ss.2 = 0)
theorem Rel.step {m W : Nat} {st : List (List Str) × List Str} {ss : List Nat × Nat} {x : Str} {b : Nat} (h : Rel m st ss) (hb : 0 < b) (hx : m + x.length = (m + 1) * b) : Rel m (pstep (((m + 1) * W : Nat) : Int) (gp m) st x) (sstep W ss b) := by
  obtain ⟨h1, h2, h3⟩ := h
  have hf : fitS (gp m) (st.2 ++ [x]) = (m + 1) * (ss.2 + b) := by
    rw [fitS_snoc, gp_len, h2, hx, Nat.mul_add]
  have hs : fitS (gp m) [x] = (m + 1) * b := by
    unfold fitS
    simp [gp_len, hx]
  unfold pstep sstep
  rw [hf]
  have hc : ((((m + 1) * W : Nat) : Int) < (((m + 1) * (ss.2 + b) : Nat) : Int) ∧ st.2 ≠ []) ↔ (W < ss.2 + b ∧ ss.2 ≠ 0) := by
    rw [Int.ofNat_lt, Nat.mul_lt_mul_left (by omega : 0 < m + 1)]
    show (_ ∧ ¬ st.2 = []) ↔ (_ ∧ ¬ ss.2 = 0)
    rw [h3]
  by_cases hq : W < ss.2 + b ∧ ss.2 ≠ 0
  · rw [if_pos hq, if_pos (hc.mpr hq)]
    refine ⟨?_, hs, ?_⟩
    · simp only [List.map_append, List.map_cons, List.map_nil, h1, h2]
    · simp; omega
  · rw [if_neg hq, if_neg fun z => hq (hc.mp z)]
    refine ⟨h1, hf, ?_⟩
    simp; omega
theorem Rel.fold {m W : Nat} : ∀ (words : List Str) (bits : List Nat) (st : List (List Str) × List Str) (ss : List Nat × Nat), words.map (fun x => m + x.length) = bits.map (fun b => (m + 1) * b) → (∀ b ∈ bits, 0 < b) → Rel m st ss →
    Rel m (words.foldl (pstep (((m + 1) * W : Nat) : Int) (gp m)) st) (bits.foldl (sstep W) ss) := by
  intro words
  induction words with
  | nil =>
    intro bits st ss e _ h
    cases bits with
    | nil => exact h
    | cons b bs => cases e
  | cons x ws ih =>
    intro bits st ss e hb h
    cases bits with
    | nil => cases e
    | cons b bs =>
      have q := List.cons.inj e
      exact ih bs _ _ q.2 (fun y hy => hb y (.tail _ hy)) (h.step (hb b (.head _)) q.1)
theorem bits_pos (ns : List Nat) : ∀ b ∈ bitsOf ns, 0 < b := by
  intro b hb
  unfold bitsOf at hb
  rw [List.mem_flatMap] at hb
  obtain ⟨c, hc, hb⟩ := hb
  unfold bitsAt at hb
  rw [List.mem_filterMap] at hb
  obtain ⟨n, _, he⟩ := hb
  split at he
  · cases he
    have : ∀ c ∈ bits5, 0 < c := by decide
    exact this _ hc
  · cases he
theorem pages_sums (m W : Nat) (ns : List Nat) (hn : ∀ n ∈ ns, n < 128) : Rel m (pages (((m + 1) * W : Nat) : Int) (gp m) (wordsOf m ns)) (sums W (bitsOf ns)) :=
  Rel.fold _ _ _ _ (words_wt m ns hn) (bits_pos ns) ⟨rfl, by simp [fitS], by simp⟩

/-! ### the bits fall -/
theorem falls_app {k : Nat} : ∀ (l2 l : List Nat), Falls l → (∀ x ∈ l, 2 ^ k ∣ x ∧ 2 ^ k ≤ x) → (∀ y ∈ l2, y = 2 ^ k) → Falls (l ++ l2) := by
  intro l2
  induction l2 with
  | nil => exact fun l h _ _ => (List.append_nil l).symm ▸ h
  | cons y l2 ih =>
    intro l h hl h2
    have hy := h2 y (.head _)
    rw [List.append_cons]
    refine ih _ (by rw [hy]; exact .snoc l k h (fun x hx => (hl x hx).1) (fun x hx => (hl x hx).2)) (fun x hx => ?_) fun z hz => h2 z (List.mem_cons_of_mem _ hz)
    rcases List.mem_append.mp hx with q | q
    · exact hl x q
    · rw [List.mem_singleton.mp q, hy]
      exact ⟨Nat.dvd_refl _, Nat.le_refl _⟩
theorem bitsAt_eq (b : Nat) (ns : List Nat) : ∀ y ∈ bitsAt b ns, y = b := by
  intro y hy
  unfold bitsAt at hy
  rw [List.mem_filterMap] at hy
  obtain ⟨n, _, he⟩ := hy
  split at he
  · cases he; rfl
  · cases he
theorem bits_falls (ns : List Nat) : Falls (bitsOf ns) := by
  have e : bitsOf ns = [] ++ bitsAt (2 ^ 4) ns ++ bitsAt (2 ^ 3) ns ++ bitsAt (2 ^ 2) ns ++ bitsAt (2 ^ 1) ns ++ bitsAt (2 ^ 0) ns := by
    unfold bitsOf bits5
    simp only [List.flatMap_cons, List.flatMap_nil, List.append_nil, List.nil_append, List.append_assoc]
  rw [e]
  have dv : ∀ j k, j ≤ k → 2 ^ j ∣ 2 ^ k ∧ 2 ^ j ≤ 2 ^ k := fun j k h => ⟨Nat.pow_dvd_pow 2 h, Nat.pow_le_pow_right (by decide) h⟩
  have f4 := falls_app (k := 4) (bitsAt (2 ^ 4) ns) [] .nil (by simp) (bitsAt_eq _ ns)
  have f3 := falls_app (k := 3) (bitsAt (2 ^ 3) ns) _ f4 (fun x hx => by
    rw [List.nil_append] at hx
    rw [bitsAt_eq _ ns x hx]; exact dv 3 4 (by decide)) (bitsAt_eq _ ns)
  have f2 := falls_app (k := 2) (bitsAt (2 ^ 2) ns) _ f3 (fun x hx => by
    rw [List.nil_append] at hx
    rcases List.mem_append.mp hx with q | q
    · rw [bitsAt_eq _ ns x q]; exact dv 2 4 (by decide)
    · rw [bitsAt_eq _ ns x q]; exact dv 2 3 (by decide)) (bitsAt_eq _ ns)
  have f1 := falls_app (k := 1) (bitsAt (2 ^ 1) ns) _ f2 (fun x hx => by
    rw [List.nil_append] at hx
    rcases List.mem_append.mp hx with q | q
    · rcases List.mem_append.mp q with q | q
      · rw [bitsAt_eq _ ns x q]; exact dv 1 4 (by decide)
      · rw [bitsAt_eq _ ns x q]; exact dv 1 3 (by decide)
    · rw [bitsAt_eq _ ns x q]; exact dv 1 2 (by decide)) (bitsAt_eq _ ns)
  exact falls_app (k := 0) (bitsAt (2 ^ 0) ns) _ f1 (fun x hx => by
    refine ⟨by simp, ?_⟩
    rw [List.nil_append] at hx
    rcases List.mem_append.mp hx with q | q
    · rcases List.mem_append.mp q with q | q
      · rcases List.mem_append.mp q with q | q
        · rw [bitsAt_eq _ ns x q]; exact (dv 0 4 (by decide)).2
        · rw [bitsAt_eq _ ns x q]; exact (dv 0 3 (by decide)).2
      · rw [bitsAt_eq _ ns x q]; exact (dv 0 2 (by decide)).2
    · rw [bitsAt_eq _ ns x q]; exact (dv 0 1 (by decide)).2) (bitsAt_eq _ ns)

/-! ### greats and small ones -/
theorem bitsAt_great (W b : Nat) (ns : List Nat) : (bitsAt b ns).filter (W < ·) = grOf W b ns := by
  unfold bitsAt grOf
  rw [List.filter_filterMap]
  apply fm_congr
  intro n _
  by_cases h : n / b % 2 = 1
  · by_cases hb : W < b
    · simp [h, hb]
    · simp [h, hb]
      omega
  · simp [h]
theorem bits_great (W : Nat) (ns : List Nat) : (bitsOf ns).filter (W < ·) = greatOf ns W := by
  unfold bitsOf greatOf
  rw [List.filter_flatMap]
  congr 1
  funext b
  exact bitsAt_great W b ns
noncomputable def smOf (W b : Nat) (ns : List Nat) : Nat := ((bitsAt b ns).filter (· ≤ W)).sum
theorem smOf_cons (W b n : Nat) (ns : List Nat) : smOf W b (n :: ns) = (if n / b % 2 = 1 ∧ b ≤ W then b else 0) + smOf W b ns := by
  unfold smOf bitsAt
  rw [List.filterMap_cons]
  by_cases h : n / b % 2 = 1
  · rw [if_pos h]
    by_cases hb : b ≤ W
    · rw [if_pos ⟨h, hb⟩]; simp [hb]
    · rw [if_neg (fun z => hb z.2)]; simp [hb]
  · rw [if_neg h, if_neg (fun z => h z.1)]; simp
theorem small_one : ∀ p, p < 7 → ∀ n, n < 32 → (if n / 16 % 2 = 1 ∧ 16 ≤ 2 ^ p then 16 else 0) + (if n / 8 % 2 = 1 ∧ 8 ≤ 2 ^ p then 8 else 0) + (if n / 4 % 2 = 1 ∧ 4 ≤ 2 ^ p then 4 else 0) + (if n / 2 % 2 = 1 ∧ 2 ≤ 2 ^ p then 2 else 0) + (if n / 1 % 2 = 1 ∧ 1 ≤ 2 ^ p then 1 else 0) = n % (2 * 2 ^ p) := by decide +kernel
theorem add5 {a b c d e A B C D E x y : Nat} (h1 : A + B + C + D + E = y) (h2 : a + b + c + d + e = x) : a + A + (b + B) + (c + C) + (d + D) + (e + E) = x + y := by omega
theorem bits_small {p : Nat} (hp : p ≤ 6) : ∀ ns : List Nat, (∀ n ∈ ns, n < 32) → ((bitsOf ns).filter (· ≤ 2 ^ p)).sum = smallOf ns (2 ^ p) := by
  have e : ∀ ns, ((bitsOf ns).filter (· ≤ 2 ^ p)).sum = smOf (2 ^ p) 16 ns + smOf (2 ^ p) 8 ns + smOf (2 ^ p) 4 ns + smOf (2 ^ p) 2 ns + smOf (2 ^ p) 1 ns := by
    intro ns
    unfold bitsOf bits5
    simp only [List.flatMap_cons, List.flatMap_nil, List.append_nil, List.filter_append, List.sum_append]
    unfold smOf
    omega
  intro ns
  induction ns with
  | nil => intro _; rfl
  | cons n r ih =>
    intro hn
    have h1 := ih fun x hx => hn x (List.mem_cons_of_mem _ hx)
    rw [e] at h1 ⊢
    rw [smOf_cons, smOf_cons, smOf_cons, smOf_cons, smOf_cons]
    have h2 := small_one p (by omega) n (hn n (List.mem_cons_self ..))
    unfold smallOf at h1 ⊢
    rw [List.map_cons, List.sum_cons]
    exact add5 h1 h2
end Mine.Internal
end

section
set_option maxRecDepth 100000
set_option maxHeartbeats 4000000
set_option linter.unusedVariables false
namespace Mine.Internal
open PySem

/-! ### the pages' rows -/
theorem pstep_flat (mx : Int) (g : Str) (st : List (List Str) × List Str) (x : Str) : ((pstep mx g st x).1 ++ [(pstep mx g st x).2]).flatten = (st.1 ++ [st.2]).flatten ++ [x] := by
  unfold pstep
  split <;> simp
theorem fold_flat (mx : Int) (g : Str) : ∀ (words : List Str) (st : List (List Str) × List Str), ((words.foldl (pstep mx g) st).1 ++ [(words.foldl (pstep mx g) st).2]).flatten = (st.1 ++ [st.2]).flatten ++ words := by
  intro words
  induction words with
  | nil => intro st; rw [List.append_nil]; rfl
  | cons x ws ih => intro st; rw [List.foldl_cons, ih, pstep_flat, List.append_assoc]; rfl
theorem rows_flat (mx : Int) (m : Nat) (words : List Str) : (rowsOf mx m words).flatten = words := by
  unfold rowsOf pages
  rw [fold_flat]
  simp
theorem fold_full (mx : Int) (g : Str) : ∀ (words : List Str) (st : List (List Str) × List Str), (∀ l ∈ st.1, l ≠ []) → ∀ l ∈ (words.foldl (pstep mx g) st).1, l ≠ [] := by
  intro words
  induction words with
  | nil => exact fun _ h => h
  | cons x ws ih => exact fun st h => ih _ (pstep_full mx g st x h)
theorem rows_ne (mx : Int) (m : Nat) (words : List Str) (h : words ≠ []) : ∀ r ∈ rowsOf mx m words, r ≠ [] := by
  intro r hr
  unfold rowsOf at hr
  rcases List.mem_append.mp hr with q | q
  · exact fold_full mx (gp m) words _ (by simp) r q
  · rw [List.mem_singleton.mp q]
    exact pages_ne mx (gp m) words h

theorem jl_pre (s : List Nat) : ∀ {A : List (List Nat)}, A ≠ [] → s ++ jl s A = (A.map fun y => s ++ y).flatten := by
  intro A h
  cases A with
  | nil => exact absurd rfl h
  | cons x r => rw [jl_cons, List.map_cons, List.flatten_cons, List.append_assoc]
theorem join_rows (g : Str) (rows : List (List Str)) (hne : rows ≠ []) (h : ∀ r ∈ rows, r ≠ []) : Txt.join g (rows.map (Txt.join g)) = Txt.join g rows.flatten := by
  apply str_ext
  rw [join_list, join_list, List.map_map]
  have e : rows.map ((fun a : Str => a.cps.toList) ∘ Txt.join g) = rows.map fun r => jl g.cps.toList (r.map fun a => a.cps.toList) := by
    apply List.map_congr_left
    intro r _
    exact join_list g r
  rw [e]
  generalize g.cps.toList = s
  have hf : rows.flatten ≠ [] := by
    intro hz
    obtain ⟨r, hr⟩ := List.exists_mem_of_ne_nil rows hne
    rw [List.flatten_eq_nil_iff] at hz
    exact h r hr (hz r hr)
  apply List.append_cancel_left (as := s)
  rw [jl_pre s (by simpa using hne), jl_pre s (by simpa using hf), List.map_map, List.map_flatten, List.map_flatten, List.map_map]
  have e2 : rows.map ((fun y => s ++ y) ∘ fun r => jl s (r.map fun a : Str => a.cps.toList)) = rows.map fun r => ((r.map fun a : Str => a.cps.toList).map fun y => s ++ y).flatten := by
    apply List.map_congr_left
    intro r hr
    exact jl_pre s (by simpa using h r hr)
  rw [e2]
  generalize hF : (fun r : List Str => (r.map fun a : Str => a.cps.toList).map fun y => s ++ y) = F
  have e3 : rows.map (fun r => ((r.map fun a : Str => a.cps.toList).map fun y => s ++ y).flatten) = (rows.map F).map List.flatten := by
    rw [List.map_map, ← hF]; rfl
  rw [e3, ← List.flatten_flatten]
  congr 1
  congr 1
  rw [← hF]
  rfl

theorem row_fit (m : Nat) (r : List Str) (h : r ≠ []) : (Txt.join (gp m) r).length + m = fitS (gp m) r := by
  rw [joinT_len, gp_len]
  have : ∀ l : List Str, fitS (gp m) l = (l.map (·.length)).sum + l.length * m := by
    intro l
    unfold fitS
    rw [gp_len]
    induction l with
    | nil => simp
    | cons x l ih =>
      rw [List.map_cons, List.sum_cons, List.map_cons, List.sum_cons, List.length_cons, ih, Nat.add_mul]
      omega
  rw [this]
  cases r with
  | nil => exact absurd rfl h
  | cons x l =>
    rw [List.length_cons, Nat.add_sub_cancel, Nat.add_mul]
    omega

section
variable {m : Nat} {ns : List Nat}
structure Nums (ns : List Nat) : Prop where
  few : ns.length ≤ 5
  b32 : ∀ n ∈ ns, n < 32
  top : ns.sum < 128
  pos : 0 < ns.sum

theorem Nums.b128 (N : Nums ns) : ∀ n ∈ ns, n < 128 := fun n h => Nat.lt_trans (N.b32 n h) (by decide)
theorem bits_ne (N : Nums ns) : bitsOf ns ≠ [] := by
  intro h
  have h1 := bits_small (p := 6) (by decide) ns N.b32
  rw [h] at h1
  have h2 : smallOf ns (2 ^ 6) = ns.sum := by
    unfold smallOf
    have : ns.map (· % (2 * 2 ^ 6)) = ns := by
      have : ns.map (· % (2 * 2 ^ 6)) = ns.map id := List.map_congr_left fun n hn => Nat.mod_eq_of_lt (N.b128 n hn)
      rw [this, List.map_id]
    rw [this]
  rw [h2] at h1
  have := N.pos
  simp at h1
  omega
theorem words_ne (N : Nums ns) : wordsOf m ns ≠ [] := by
  intro h
  have h1 := words_wt m ns N.b128
  rw [h] at h1
  exact bits_ne N (by simpa using h1.symm)
theorem rows_sums (N : Nums ns) {p : Nat} (hp : p ≤ 6) : (rowsOf (((m + 1) * 2 ^ p : Nat) : Int) m (wordsOf m ns)).map (fitS (gp m)) = (sizesOf ns (2 ^ p)).map fun z => (m + 1) * z := by
  obtain ⟨h1, h2, h3⟩ := pages_sums m (2 ^ p) ns N.b128
  have hst := greedy (p := p) (bits_falls ns)
  have hne : (sums (2 ^ p) (bitsOf ns)).2 ≠ 0 := fun h => pages_ne _ _ _ (words_ne N) (h3.mpr h)
  have he := hst.end hne
  rw [bits_great, bits_small hp ns N.b32] at he
  unfold rowsOf sizesOf
  rw [← he, List.map_append, List.map_append, h1, List.map_cons, List.map_nil, h2]
  rfl
theorem rows_lens (N : Nums ns) {p : Nat} (hp : p ≤ 6) : (rowsT m (2 ^ p) ns).map (fun r => r.length + m) = lensOf m ns (2 ^ p) := by
  unfold lensOf
  rw [← rows_sums N hp]
  unfold rowsT
  rw [List.map_map]
  apply List.map_congr_left
  intro r hr
  exact row_fit m r (rows_ne _ _ _ (words_ne N) r hr)
theorem rows_join (N : Nums ns) (p : Nat) : Txt.join (gp m) (rowsT m (2 ^ p) ns) = Txt.join (gp m) (wordsOf m ns) := by
  unfold rowsT
  rw [join_rows _ _ (by unfold rowsOf; simp) (rows_ne _ _ _ (words_ne N)), rows_flat]

theorem fitS_app (g : Str) (a b : List Str) : fitS g (a ++ b) = fitS g a + fitS g b := by
  unfold fitS; rw [List.map_append, List.sum_append]
theorem fitS_flat (g : Str) : ∀ rows : List (List Str), (rows.map (fitS g)).sum = fitS g rows.flatten := by
  intro rows
  induction rows with
  | nil => rfl
  | cons r rows ih => rw [List.map_cons, List.sum_cons, List.flatten_cons, fitS_app, ih]
theorem sum_len_le (hm : 1 ≤ m) : ∀ l : List Str, (l.map (·.length)).sum + l.length ≤ (l.map fun r => r.length + m).sum := by
  intro l
  induction l with
  | nil => exact Nat.le_refl 0
  | cons x l this =>
    rw [List.map_cons, List.sum_cons, List.map_cons, List.sum_cons, List.length_cons]
    omega
theorem words_few (N : Nums ns) : (wordsOf m ns).length ≤ 25 := wordsAll_len m ns N.few [4, 3, 2, 1, 0]
theorem words_fit (N : Nums ns) (hm : 1 ≤ m ∧ m ≤ 3) : fitS (gp m) (wordsOf m ns) ≤ 7575 := by
  have h1 := fitS_le (g := gp m) (ws := wordsOf m ns) (by rw [gp_len]; exact hm.2) fun y hy => (words_gw m ns N.few hm y hy).top
  have h2 := words_few (m := m) N
  omega
theorem rows_wt (N : Nums ns) (hm : 1 ≤ m ∧ m ≤ 3) (p : Nat) : ((rowsT m (2 ^ p) ns).map (·.length)).sum + (rowsT m (2 ^ p) ns).length ≤ 10000 := by
  refine Nat.le_trans (sum_len_le hm.1 _) ?_
  have e : ((rowsT m (2 ^ p) ns).map fun r => r.length + m) = (rowsOf (((m + 1) * 2 ^ p : Nat) : Int) m (wordsOf m ns)).map (fitS (gp m)) := by
    unfold rowsT
    rw [List.map_map]
    apply List.map_congr_left
    intro r hr
    exact row_fit m r (rows_ne _ _ _ (words_ne N) r hr)
  rw [e, fitS_flat, rows_flat]
  have := words_fit N hm
  omega

/-! ### full rows -/
theorem full_eq (p : Nat) : fullOf m ns (2 ^ p) = smallOf ns (2 ^ p) / 2 ^ p := by
  have hW := Nat.two_pow_pos p
  unfold fullOf lensOf
  rw [List.filter_map, List.length_map]
  have e : ((fun x => x == (m + 1) * 2 ^ p) ∘ fun z => (m + 1) * z) = fun z => z == 2 ^ p := by
    funext z
    show ((m + 1) * z == (m + 1) * 2 ^ p) = (z == 2 ^ p)
    rw [Bool.eq_iff_iff, beq_iff_eq, beq_iff_eq]
    exact ⟨fun h => Nat.eq_of_mul_eq_mul_left (by omega) h, fun h => by rw [h]⟩
  rw [e]
  unfold sizesOf
  rw [List.filter_append, List.filter_append, List.length_append, List.length_append]
  have g0 : (greatOf ns (2 ^ p)).filter (fun z => z == 2 ^ p) = [] := by
    rw [List.filter_eq_nil_iff]
    intro x hx
    rw [← bits_great] at hx
    have := (List.mem_filter.mp hx).2
    simp only [decide_eq_true_eq] at this
    simp
    omega
  have r0 : (List.replicate (smallOf ns (2 ^ p) / 2 ^ p) (2 ^ p)).filter (fun z => z == 2 ^ p) = List.replicate (smallOf ns (2 ^ p) / 2 ^ p) (2 ^ p) := by
    rw [List.filter_eq_self]
    intro x hx
    rw [(List.mem_replicate.mp hx).2, beq_self_eq_true]
  have t0 : (if 0 < smallOf ns (2 ^ p) % 2 ^ p then [smallOf ns (2 ^ p) % 2 ^ p] else []).filter (fun z => z == 2 ^ p) = [] := by
    have := Nat.mod_lt (smallOf ns (2 ^ p)) hW
    split
    · rw [List.filter_eq_nil_iff]
      intro x hx
      rw [List.mem_singleton.mp hx]
      simp
      omega
    · rfl
  rw [g0, r0, t0]
  simp
theorem sum_apart (W : Nat) : ∀ ns : List Nat, ns.sum = smallOf ns W + 2 * W * (ns.map (· / (2 * W))).sum := by
  intro ns
  induction ns with
  | nil => rfl
  | cons n r ih =>
    unfold smallOf at ih ⊢
    rw [List.map_cons, List.sum_cons, List.sum_cons, List.map_cons, List.sum_cons, Nat.mul_add]
    have := Nat.div_add_mod n (2 * W)
    omega
theorem half_apart (W : Nat) (hW : 0 < W) : ∀ ns : List Nat, (ns.map (· / W)).sum = 2 * (ns.map (· / (2 * W))).sum + onesOf ns W := by
  intro ns
  induction ns with
  | nil => rfl
  | cons n r ih =>
    unfold onesOf at ih ⊢
    rw [List.map_cons, List.sum_cons, List.map_cons, List.sum_cons, ih]
    have h1 : n / (2 * W) = n / W / 2 := by rw [Nat.mul_comm, Nat.div_div_eq_div_mul]
    rw [h1]
    by_cases h : n / W % 2 = 1
    · rw [List.filter_cons_of_pos (by simp [h]), List.length_cons]
      omega
    · rw [List.filter_cons_of_neg (by simp [h])]
      omega
theorem total_apart (p : Nat) : ns.sum / 2 ^ p = smallOf ns (2 ^ p) / 2 ^ p + 2 * (ns.map (· / (2 * 2 ^ p))).sum := by
  have hW := Nat.two_pow_pos p
  conv => lhs; rw [sum_apart (2 ^ p) ns]
  rw [show 2 * 2 ^ p * (ns.map (· / (2 * 2 ^ p))).sum = 2 ^ p * (2 * (ns.map (· / (2 * 2 ^ p))).sum) by rw [Nat.mul_comm 2 (2 ^ p), Nat.mul_assoc], Nat.add_mul_div_left _ _ hW]
theorem full_odd (p : Nat) : fullOf m ns (2 ^ p) % 2 = ns.sum / 2 ^ p % 2 := by
  rw [full_eq, total_apart]
  first | exact (Nat.add_mul_mod_self_left _ 2 _).symm | omega
theorem full_carry (p : Nat) : (fullOf m ns (2 ^ p) : Int) - (onesOf ns (2 ^ p) : Int) = ((ns.sum / 2 ^ p : Nat) : Int) - (((ns.map (· / 2 ^ p)).sum : Nat) : Int) := by
  rw [full_eq, total_apart, half_apart (2 ^ p) (Nat.two_pow_pos p)]
  omega
theorem odds_eq : oddsTo m ns 7 = places7.filter fun p => ns.sum / 2 ^ p % 2 == 1 := by
  unfold oddsTo
  rw [show places7.take 7 = places7 from rfl]
  congr 1
  funext p
  rw [full_odd]
theorem two_sum : ∀ ns : List Nat, (ns.map two).sum = (ns.map (· / 2 ^ 1)).sum + (ns.map (· / 2 ^ 2)).sum + (ns.map (· / 2 ^ 3)).sum + (ns.map (· / 2 ^ 4)).sum + (ns.map (· / 2 ^ 5)).sum + (ns.map (· / 2 ^ 6)).sum := by
  intro ns
  induction ns with
  | nil => rfl
  | cons n r ih =>
    simp only [List.map_cons, List.sum_cons]
    rw [ih]
    unfold two
    omega
theorem map_div_one : ∀ ns : List Nat, (ns.map (· / 2 ^ 0)).sum = ns.sum := by
  intro ns
  induction ns with
  | nil => rfl
  | cons n r ih => rw [List.map_cons, List.sum_cons, List.sum_cons, ih, Nat.pow_zero, Nat.div_one]
theorem carries_eq : carriesTo m ns 7 = (two ns.sum : Int) - ((ns.map two).sum : Int) := by
  unfold carriesTo
  rw [show places7.take 7 = [6, 5, 4, 3, 2, 1, 0] from rfl]
  simp only [List.map_cons, List.map_nil, List.sum_cons, List.sum_nil, full_carry]
  rw [two_sum, map_div_one]
  unfold two
  omega

theorem plain_of (N : Nums ns) (hm : 1 ≤ m ∧ m ≤ 3) : Plain m ns where
  gw := words_gw m ns N.few hm
  ne := words_ne N
  few := Nat.le_trans (words_few N) (by decide)
  wsum := by
    have h1 := words_fit N hm
    have h2 := words_few (m := m) N
    have h3 : ((wordsOf m ns).map (·.length)).sum ≤ fitS (gp m) (wordsOf m ns) := by
      have : ∀ l : List Str, (l.map (·.length)).sum ≤ fitS (gp m) l := by
        intro l
        induction l with
        | nil => simp [fitS]
        | cons x r ih =>
          unfold fitS at ih ⊢
          simp only [List.map_cons, List.sum_cons]
          omega
      exact this _
    omega
  rsum := fun p _ => rows_wt N hm p
  join := fun p _ => rows_join N p
  lens := fun p hp => rows_lens N hp
  total := ⟨N.pos, Nat.lt_trans N.top (by decide)⟩
  places := by rw [places_bits _ N.top, odds_eq]
  single := by rw [odds_eq]; exact single_bits _ N.top N.pos
  kummer := by rw [kummer ns N.top N.b128, carries_eq]
end

theorem nums3 (xs : List (Int × Tok)) : Nums (numsOf3 xs) := by
  have hdr : ∀ n ∈ (((xs.map (·.1)).take 3).map fun x => (x.fmod 32).toNat), n < 32 := by
    intro n hn
    obtain ⟨x, _, rfl⟩ := List.mem_map.mp hn
    have h2 := Int.fmod_eq_emod_of_nonneg x (show (0 : Int) ≤ 32 by decide)
    have h4 := Int.emod_lt_of_pos x (show (0 : Int) < 32 by decide)
    omega
  have hlen : (((xs.map (·.1)).take 3).map fun x => (x.fmod 32).toNat).length ≤ 3 := by
    rw [List.length_map, List.length_take]; exact Nat.min_le_left _ _
  unfold numsOf3
  generalize (((xs.map (·.1)).take 3).map fun x => (x.fmod 32).toNat) = d at hdr hlen
  have hs : ∀ l : List Nat, (∀ n ∈ l, n < 32) → l.sum ≤ 31 * l.length := by
    intro l
    induction l with
    | nil => intro _; simp
    | cons x r ih =>
      intro h
      have h1 := ih fun n hn => h n (List.mem_cons_of_mem _ hn)
      have h2 := h x (List.mem_cons_self ..)
      rw [List.sum_cons, List.length_cons]
      omega
  have hd := hs d hdr
  refine ⟨by rw [List.length_append]; simp; omega, fun n hn => ?_, by rw [List.sum_append]; simp; omega, by rw [List.sum_append]; simp; omega⟩
  rcases List.mem_append.mp hn with q | q
  · simp only [List.mem_cons, List.not_mem_nil, or_false] at q
    omega
  · exact hdr n q
theorem plain3 (xs : List (Int × Tok)) (m : Nat) (h1 : 1 ≤ m) (h3 : m ≤ 3) : Plain m (numsOf3 xs) := plain_of (nums3 xs) ⟨h1, h3⟩
end Mine.Internal
end

section
open PySem PySem.W PyProof.Rows PySem.Calls PySem.W.X PySem.W.ZRun
set_option maxRecDepth 100000
set_option maxHeartbeats 8000000
set_option linter.unusedVariables false
theorem PySem.Challenge.cw_rl0076_01_holds : PySem.Challenge.rw_rl0076_01.Holds := by
  refine Mine.Internal.hd ?_
  intro w s₀ s₁ mg mb G y fa o pm cd doc dV kV ho hd hcd hD hmg hg args vals as L hpre hlay hrd hwl hlo
  have f := z_facts (K := Mine.Internal.hd.heap_261) (fun _ => by kernel_rfl) y
  have KX : (Mine.Internal.hd.heap_261 w.params).In s₁.heap := InK.keeps w _ _ f.2.1 (Laid.keeps L)
  have ZN := f.2.2.1
  clear f y hd hcd hD ho
  refine Ground.open G ?_
  intro T B D TE TW
  clear B D TE TW G
  wrow_args hpre hlay hrd hwl hlo
  obtain ⟨hat, hsz⟩ := script_at L
  rw [ZN] at hat hsz
  subst hat
  obtain rfl := Mine.Internal.fin_law KX T.g hmg
  clear hmg
  all_lens
  have gx : Mine.Internal.Gx w s₁.heap := Mine.Internal.fin_gx KX T.b T.builtins
  refine Mine.Internal.fin_call Mine.Internal.plain3 gx (by assumption) (by assumption) (by assumption) fun s' go gx' => ?_
  exact ⟨.inl ⟨_, _, [], rfl, fun _ => rfl, ReadsW.bool true, by wrow_post, fun _ => ⟨List.nodup_nil, fun _ hm => (nomatch hm)⟩⟩, Mine.Internal.fin_old go gx gx' (Mine.Internal.fin_tab KX).1 (Mine.Internal.fin_tab KX).2, go.os, go.gens (by rw [hg]; exact AllBare.empty)⟩
end
