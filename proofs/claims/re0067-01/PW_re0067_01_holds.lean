import PyProof.Rows.All
import Wide.All
import OpenK.AllK
import Wide.FinOn
import PySem.Challenge.RW_re0067_01
set_option Elab.async false

section
open PySem PySem.W PyProof.Rows
namespace Mine
noncomputable section
/-- a statement of the text by its place -/
noncomputable def stAt (i : Nat) : Stmt := (PySem.Challenge.pw_re0067_01.main.body[i]?).getD (.Pass ⟨0, 0, 0, 0⟩)
/-- the def object that a FunctionDef leaves -/
noncomputable def fnO (st : Stmt) (md : String) (t code : Nat) : Obj :=
  @Stmt.casesOn (fun _ => Obj) st
    (fun n ps b _ _ _ sc _ _ _ => { cls := .type "function", data := .func { name := n, qualname := n, params := ps, body := .stmts b, scope := sc, globals := 3, closure := [], defaults := .none, kwdefaults := .none, pyModule := .str (Str.ofString md) t, code := .ref code } })
    (fun _ _ _ _ _ _ _ _ _ _ => default)
    (fun _ _ _ _ _ _ _ _ _ _ _ => default)
    (fun _ _ => default)
    (fun _ _ => default)
    (fun _ _ _ => default)
    (fun _ _ _ _ _ _ _ => default)
    (fun _ _ _ _ => default)
    (fun _ _ _ _ _ => default)
    (fun _ _ _ _ _ => default)
    (fun _ _ _ _ _ => default)
    (fun _ _ _ _ => default)
    (fun _ _ _ _ => default)
    (fun _ _ _ => default)
    (fun _ _ _ => default)
    (fun _ _ _ => default)
    (fun _ _ _ => default)
    (fun _ _ _ _ _ => default)
    (fun _ _ _ _ _ => default)
    (fun _ _ _ => default)
    (fun _ _ => default)
    (fun _ _ _ _ => default)
    (fun _ _ => default)
    (fun _ _ => default)
    (fun _ _ => default)
    (fun _ => default)
    (fun _ => default)
    (fun _ => default)
/-- a def's code object -/
noncomputable def codeO (n : String) (t line argc a : Nat) (v13 v14 v15 : Value) (t16 : Nat) : Obj :=
  { cls := .type "code", data := .fields #[.str (Str.ofString n) t, .str (Str.ofString n) (t + 1), .str (Str.ofString "/claim/cut.py") (t + 2), .int line 0, .int argc 0, .int 0 0, .int 0 0, .int 3 0, .ref a, .bool true, .int 181 0, .ref (a + 1), .none, v13, v14, v15, .int t16 0, .int line 0, .str (Str.ofString "/claim/cut.py") (t16 + 1)] }
noncomputable def ent (P : Params) (n : String) (t : Nat) (v : Value) : DictEntry := { hash := PyData.keyHash P (Str.ofString n), key := .str (Str.ofString n) t, val := v }
noncomputable def mainD (P : Params) : Array DictEntry := #[
  ent P "__name__" 165 (.str (Str.ofString "law_re0067_01") 288),
  ent P "__doc__" 166 (.none),
  ent P "__package__" 167 (.none),
  ent P "__loader__" 168 (.builtin "__main__.__loader__#opaque"),
  ent P "__spec__" 169 (.none),
  ent P "__annotations__" 170 (.ref 6),
  ent P "__builtins__" 171 (.ref 4),
  ent P "__file__" 173 (.str (Str.ofString "/claim/cut.py") 172),
  ent P "__cached__" 174 (.none),
  ent P "TICK" 190 (.str (Str.ofString "'") 189),
  ent P "decode_rfc2231" 198 (.ref 21),
  ent P "rgb_to_hls" 219 (.ref 28),
  ent P "rgb_to_hsv" 237 (.ref 35),
  ent P "hsv_to_rgb" 251 (.ref 42),
  ent P "_MAX_STRING_SIZE" 255 (.int 40 254),
  ent P "_MOVE_COST" 257 (.int 2 256),
  ent P "_CASE_COST" 259 (.int 1 258),
  ent P "_substitution_cost" 267 (.ref 49),
  ent P "_levenshtein_distance" 287 (.ref 56),
  ent P "_law_sums" 298 (.ref 63),
  ent P "_law_kinds" 304 (.ref 68),
  ent P "_law_sign" 312 (.ref 75),
  ent P "_law_pieces" 322 (.ref 82),
  ent P "_law_due" 328 (.ref 87),
  ent P "_law_stood" 334 (.ref 92),
  ent P "_law_shown" 341 (.ref 99),
  ent P "_law_price" 347 (.ref 104),
  ent P "law" 353 (.ref 109)]
/-- the written part of the heap behind the top -/
noncomputable def heapK : Params → Frag := fun P => [
  (nat_lit 2, ⟨.none, none, .dict #[] 0, #[]⟩),
  (nat_lit 3, ⟨.type "dict", none, .dict (mainD P) 28, #[]⟩),
  (nat_lit 20, codeO "decode_rfc2231" 191 3 1 15 (.ref 17) (.ref 18) (.ref 19) 196),
  (nat_lit 21, fnO (stAt 2) "cpy313.email.utils" 187 20),
  (nat_lit 27, codeO "rgb_to_hls" 201 9 3 22 (.ref 24) (.ref 25) (.ref 26) 217),
  (nat_lit 28, fnO (stAt 4) "cpy313.colorsys" 199 27),
  (nat_lit 34, codeO "rgb_to_hsv" 220 32 3 29 (.ref 31) (.ref 32) (.ref 33) 235),
  (nat_lit 35, fnO (stAt 5) "cpy313.colorsys" 199 34),
  (nat_lit 41, codeO "hsv_to_rgb" 238 51 3 36 (.ref 38) (.ref 39) (.ref 40) 249),
  (nat_lit 42, fnO (stAt 6) "cpy313.colorsys" 199 41),
  (nat_lit 48, codeO "_substitution_cost" 260 76 2 43 (.ref 45) (.ref 46) (.ref 47) 265),
  (nat_lit 49, fnO (stAt 11) "cpy313.traceback" 252 48),
  (nat_lit 55, codeO "_levenshtein_distance" 268 82 3 50 (.ref 52) (.ref 53) (.ref 54) 285),
  (nat_lit 56, fnO (stAt 12) "cpy313.traceback" 252 55),
  (nat_lit 62, codeO "_law_sums" 290 121 1 57 (.ref 59) (.ref 60) (.ref 61) 296),
  (nat_lit 63, fnO (stAt 14) "law_re0067_01" 288 62),
  (nat_lit 67, codeO "_law_kinds" 299 126 1 64 .none .none (.ref 66) 302),
  (nat_lit 68, fnO (stAt 15) "law_re0067_01" 288 67),
  (nat_lit 74, codeO "_law_sign" 305 132 2 69 (.ref 71) (.ref 72) (.ref 73) 310),
  (nat_lit 75, fnO (stAt 16) "law_re0067_01" 288 74),
  (nat_lit 81, codeO "_law_pieces" 313 136 2 76 (.ref 78) (.ref 79) (.ref 80) 320),
  (nat_lit 82, fnO (stAt 17) "law_re0067_01" 288 81),
  (nat_lit 86, codeO "_law_due" 323 144 2 83 .none .none (.ref 85) 326),
  (nat_lit 87, fnO (stAt 18) "law_re0067_01" 288 86),
  (nat_lit 91, codeO "_law_stood" 329 149 2 88 .none .none (.ref 90) 332),
  (nat_lit 92, fnO (stAt 19) "law_re0067_01" 288 91),
  (nat_lit 98, codeO "_law_shown" 335 153 1 93 (.ref 95) (.ref 96) (.ref 97) 339),
  (nat_lit 99, fnO (stAt 20) "law_re0067_01" 288 98),
  (nat_lit 103, codeO "_law_price" 342 155 3 100 .none .none (.ref 102) 345),
  (nat_lit 104, fnO (stAt 21) "law_re0067_01" 288 103),
  (nat_lit 108, codeO "law" 348 162 1 105 .none .none (.ref 107) 351),
  (nat_lit 109, fnO (stAt 22) "law_re0067_01" 288 108)]
noncomputable def viewK : Program := PySem.W.view PySem.Challenge.pw_re0067_01 [1, 2, 4, 5, 6, 8, 9, 10, 11, 12, 14, 15, 16, 17, 18, 19, 20, 21, 22]

noncomputable def heapAs : List Addr := [2, 3, 20, 21, 27, 28, 34, 35, 41, 42, 48, 49, 55, 56, 62, 63, 67, 68, 74, 75, 81, 82, 86, 87, 91, 92, 98, 99, 103, 104, 108, 109]
theorem heapAs_eq (P : Params) : heapAs = (heapK P).map (·.1) := by kernel_rfl
theorem said : PySem.Challenge.rw_re0067_01.wellSaid = true := by kernel_rfl
/-- the top's run, in every world -/
theorem left : LeftO PySem.Challenge.rw_re0067_01.row.prog viewK [] (fun s => xlAt viewK [] s && recOk (RowW.records PySem.Challenge.rw_re0067_01.row.toRowW) s) (fun s => heapAs.map s.heap.get?) (fun w => (heapK w.params).map fun p => some p.2) 1212 := fun w => by kernel_rfl
set_option maxRecDepth 100000 in
set_option maxHeartbeats 8000000 in
theorem hd {d : DefRec} {kwd : List (Str × PySem.Expr)} (hdef : defOf viewK (Str.ofString "law") = some (d, kwd)) (hp : PySem.Challenge.rw_re0067_01.row.prog.theDef (Str.ofString "law") = some (d.params, d.body, d.scope)) (hk : kwWritten? d.params.kwonlyargs d.params.kw_defaults = some kwd)
    (walk : WalkO viewK [] (XL viewK []) (InK heapK) PySem.Challenge.rw_re0067_01.row.toRowW d kwd fun f vs => PySem.call f vs) : PySem.Challenge.rw_re0067_01.Holds := by
  w_on
  refine holds_law said fun said => ?_
  refine holds_open (q := viewK) left (InK.of heapAs_eq) InK.keeps (fun s e => xl_of s (Bool.and_eq_true_iff.mp e).1) XL.keeps hdef hp hk (fun s e => recFacts_of (Bool.and_eq_true_iff.mp e).2) (by rfl) (by assumption) (by decide +kernel) ⟨rfl, rfl, rfl, rfl, rfl, by decide +kernel⟩ ?hw walk
  case hw => w_witness2
theorem fill_M0 : (∀ w, Mine.heapK w = Mine.heapK w) ∧ PySem.Challenge.rw_re0067_01 = PySem.Challenge.rw_re0067_01 := by
  k_fill
  exact ⟨fun _ => rfl, rfl⟩
end
end Mine
end

section
open PySem PySem.W PySem.Calls PyProof.Rows

namespace Mine
noncomputable abbrev PG : Program := PySem.Challenge.rw_re0067_01.row.prog
noncomputable abbrev VW : Program := viewK
abbrev TopV (mean : ExcName → Option Value) (mg mb : Str → Option Value) (h : Heap) : Prop := Top VW (looseW VW []) mean mg mb h

/-- the new objects of a heap h' over a heap g -/
noncomputable def NewOf (g h' : Heap) (new : List (Addr × Obj)) : Prop := ∀ p ∈ new, h'.get? p.1 = some p.2 ∧ g.get? p.1 = none

/-- what a walked call hands back: the base is kept, some new objects stand -/
abbrev RetTo (s : Shared) (Q : Value → Shared → Prop) (Post : Value → List (Addr × Obj) → Prop) : Prop :=
  ∀ v h' tk' new, s.heap.StaysIn h' → NewOf s.heap h' new → Post v new → Q v { s with heap := h', toks := tk' }

/-- the surroundings of a call, with room told by numbers -/
abbrev AX (dp un : Nat) (env : Env) (outer : List Env) : Around := { handled := none, depth := dp, frames := some (env :: outer), guards := some [], units := un }

theorem wpAny_le {α : Type} {M : Model} {A A' : Around} {t : Sem α} {Q : α → Shared → Prop} {E : Value → Shared → Prop} {s : Shared}
    (hh : A.handled = A'.handled) (hd : A.depth ≤ A'.depth) (hf : A.frames = A'.frames) (hg : A.guards = A'.guards) (hu : A.units ≤ A'.units) (h : wpAny M A' t Q E s) : wpAny M A t Q E s :=
  fun Γ p hΓ => h Γ p ⟨hΓ.1.trans hh, Nat.le_trans hΓ.2.1 hd, fun l hl => hΓ.2.2.1 l (hf.trans hl), fun g hl => hΓ.2.2.2.1 g (hg.trans hl), Nat.le_trans hΓ.2.2.2.2 hu⟩

section
variable {w : World} {A₀ A : Around} {s : Shared} {base h₀ : Heap} {outer : List Env} {L : Addr} {m mg mb : Str → Option Value} {mean : ExcName → Option Value} {env : Env}
  {R : Result → Shared → Prop} {name qual : Str} {params : Arguments} {body : List Stmt} {scope : Scope} {dV kV doc pm cdv ct oc : Value} {an od : Option Addr} {osl : Array (Option Value)} {f : Addr} {args : Args} {binds : List (Str × Value)}

/-- the caller's frame seen from a callee: everything that stands is the callee's base -/
structure Gr (w : World) (mean : ExcName → Option Value) (mg mb : Str → Option Value) (A : Around) (base : Heap) (envs : List Env) (g : Heap) : Prop where
  B : Below A base envs g
  X : (heapK w.params).In g
  T : TopV mean mg mb g

theorem Gr.of (B : Below A₀ base outer h₀) (F : Fr h₀ L s.heap m) (X : (heapK w.params).In h₀) (T : TopV mean mg mb h₀) (hA : A.frames = some (env :: outer)) (hf : env.frame = some L) (hke : env.scope.kind = .function) :
    Gr w mean mg mb A base (env :: outer) s.heap := by
  have FG := F
  obtain ⟨_, BG, st, _⟩ := groundX (R := fun _ _ => True) B F (News.nil (h := s.heap)) hA hf hke
  exact ⟨BG, X.keeps F.keep, T.keeps F.keep⟩

theorem call_flat (bm : Str → Option Value) (G : Gr w mean mg mb A base (env :: outer) s.heap)
    (ho : (heapK w.params).lookup f = some ⟨oc, od, .func (fnOf name qual params body scope dV kV doc pm an cdv ct), osl⟩) (hcd : codeIn (heapK w.params) cdv qual = true) (hroom : A.depth < recursionLimit)
    (hbind : BindsTo s (fnOf name qual params body scope dV kV doc pm an cdv ct) args binds) (hloc : ∀ y ∈ binds, scope.names.lookup y.1 = some .local) (hbm : (fun y => binds.reverse.lookup y) = bm)
    (h : ∀ L' h₁ tk, Fr s.heap L' h₁ bm →
      wpAny (model PG w) (A.deeper (envOf qual scope L' f cdv)) (execs body (envOf qual scope L' f cdv))
        (fun fl s' => R (.ok (.ret (match fl with | .ret v => v | _ => .none))) s')
        (fun e s' => wpAny (model PG w) (A.deeper (envOf qual scope L' f cdv)) (leaving (envOf qual scope L' f cdv) e) (fun _ s'' => R (.error e) s'') (fun e' s'' => R (.error e') s'') s')
        { s with heap := h₁, toks := tk })
    (hco : scope.isCoroutine = false) (hgen : scope.isGenerator = false) (hk : scope.kind = .function)
    (hcell : ∀ x ∈ scope.names, x.2 ≠ .cell) : codeAny (model PG w) A (.call (.ref f) args) R s :=
  codeAny_call_def (fd := fnOf name qual params body scope dV kV doc pm an cdv ct) (body := body) (binds := binds) hroom (G.X _ _ ho) rfl G.T.nolimit (codeRec_of G.X hcd) rfl hbind hcell hloc
    (fun h₁ hns hk₁ => h _ h₁ _ ⟨hbm ▸ hns, hk₁, Nat.le_refl _⟩) hco hgen hk

theorem call_flatC (G : Gr w mean mg mb A base (env :: outer) s.heap)
    (ho : (heapK w.params).lookup f = some ⟨oc, od, .func (fnOf name qual params body scope dV kV doc pm an cdv ct), osl⟩) (hcd : codeIn (heapK w.params) cdv qual = true) (hroom : A.depth < recursionLimit)
    (hbind : BindsTo s (fnOf name qual params body scope dV kV doc pm an cdv ct) args binds) (hkind : (binds.all fun y => scope.names.lookup y.1 == some .local || scope.names.lookup y.1 == some .cell) = true)
    (hnd : ((cellsFrom 0 scope.names []).map (·.1)).Nodup)
    (h : ∀ L' h₁ tk cells, Fr s.heap L' h₁ (bindL (envOfC qual scope L' f cdv).kindOf binds fun _ => none) → News s.heap L' h₁ cells →
      CellsAre (bindC (envOfC qual scope L' f cdv).kindOf binds fun _ => none) (cellsFrom (L' + 1) scope.names []) cells →
      wpAny (model PG w) (A.deeper (envOfC qual scope L' f cdv)) (execs body (envOfC qual scope L' f cdv))
        (fun fl s' => R (.ok (.ret (match fl with | .ret v => v | _ => .none))) s')
        (fun e s' => wpAny (model PG w) (A.deeper (envOfC qual scope L' f cdv)) (leaving (envOfC qual scope L' f cdv) e) (fun _ s'' => R (.error e) s'') (fun e' s'' => R (.error e') s'') s')
        { s with heap := h₁, toks := tk })
    (hco : scope.isCoroutine = false) (hgen : scope.isGenerator = false) (hk : scope.kind = .function) : codeAny (model PG w) A (.call (.ref f) args) R s := by
  refine codeAny_call_function (fd := fnOf name qual params body scope dV kV doc pm an cdv ct) hroom (G.X _ _ ho) rfl hco hgen rfl (codeRec_of G.X hcd) (hbind _ _ _ _ ?_)
  refine wpAny_newFunctionEnv_cells hk (kindsX hkind _) fun env' he s' x => ?_
  subst he
  refine ⟨G.T.nolimit.keeps x.toInCall.keep, codeAny_func ?_⟩
  obtain ⟨h₁, tk, rfl, _⟩ := x.done
  have hk₁ := x.toInCall.keep
  obtain ⟨cells, NC, Y⟩ := Cl.news (h₀ := s.heap) (Nat.le_refl _) fun n c hm => ⟨x.cell n c (lookup_of_mem_nodup (cellsFrom_names scope.names 0 (s.heap.objs.size + 1) [] [] rfl ▸ hnd) hm), x.above n c hm⟩
  exact h s.heap.objs.size h₁ tk cells ⟨x.toInCall.ns, hk₁, Nat.le_refl _⟩ NC Y

/-- a contract at a call: the caller's frame and ledger come through, the new objects are added -/
theorem call_use {dp un : Nat} {news : List (Addr × Obj)} {vs : List Value} {Q E : Value → Shared → Prop} {Post : Value → List (Addr × Obj) → Prop}
    (B : Below A₀ base outer h₀) (F : Fr h₀ L s.heap m) (N : News h₀ L s.heap news) (X : (heapK w.params).In h₀) (T : TopV mean mg mb h₀)
    (hh : A.handled = none) (hA : A.frames = some (env :: outer)) (hg : A.guards = some []) (hdp : A.depth ≤ dp) (hun : A.units ≤ un) (hf : env.frame = some L) (hke : env.scope.kind = .function)
    (C : Gr w mean mg mb (AX dp un env outer) base (env :: outer) s.heap → RetTo s Q Post → wpAny (model PG w) (AX dp un env outer) (call (.ref f) vs) Q E s)
    (h : ∀ v h' tk' new, Fr h₀ L h' m → News h₀ L h' (new ++ news) → (∀ p ∈ new, ∀ q ∈ news, p.1 ≠ q.1) → s.heap.StaysIn h' → Post v new → Q v { s with heap := h', toks := tk' }) :
    wpAny (model PG w) A (call (.ref f) vs) Q E s := by
  refine wpAny_le (A' := AX dp un env outer) hh hdp hA hg hun (C (Gr.of B F X T rfl hf hke) fun v h' tk' new st nw hp => ?_)
  have hL := F.ns
  obtain ⟨oL, es, ep, hL, _⟩ := F.ns
  refine h v h' tk' new (F.grownK st) (fun p hp => ?_) (fun p hp q hq e => ?_) st hp
  · rcases List.mem_append.mp hp with hp | hp
    · refine ⟨(nw p hp).1, fun e => ?_, ?_⟩
      · have := (nw p hp).2; rw [e, hL] at this; cases this
      · cases q : h₀.get? p.1 with
        | none => rfl
        | some o => have := (nw p hp).2; rw [F.keep _ _ q] at this; cases this
    · exact ⟨st _ _ (N p hp).1, (N p hp).2⟩
  · have := (nw p hp).2; rw [e, (N q hq).1] at this; cases this

/-- the end of a contract's walk -/
theorem ret_end {Q : Value → Shared → Prop} {Post : Value → List (Addr × Obj) → Prop} {news new : List (Addr × Obj)} {v : Value} {h' : Heap} {tk' : Nat}
    (ret : RetTo s Q Post) (F : Fr s.heap L h' m) (N : News s.heap L h' news) (hs : ∀ p ∈ new, p ∈ news) (hp : Post v new) : Q v { s with heap := h', toks := tk' } :=
  ret v h' tk' new F.keep (fun p hp => ⟨(N p (hs p hp)).1, (N p (hs p hp)).2.2⟩) hp
end
end Mine
namespace Mine
theorem lookup_c {n y : Str} {v : Value} {r : List (Str × Value)} : List.lookup y ((n, v) :: r) = if y = n then some v else List.lookup y r := by
  rw [List.lookup_cons]
  by_cases h : y = n
  · rw [if_pos h, beq_iff_eq.mpr h]
  · rw [if_neg h, beq_eq_false_iff_ne.mpr h]
/-- a written list of bound names as a map by cases -/
theorem binds_1 {b : List (Str × Value)} {n1 : Str} {v1 : Value} (h : b = [(n1, v1)]) : (fun y => b.reverse.lookup y) = fun y => if y = n1 then some v1 else none := by
  subst h; funext y; exact lookup_c
theorem binds_2 {b : List (Str × Value)} {n1 n2 : Str} {v1 v2 : Value} (h : b = [(n1, v1), (n2, v2)]) (hn : n1 ≠ n2) : (fun y => b.reverse.lookup y) = fun y => if y = n1 then some v1 else if y = n2 then some v2 else none := by
  subst h; funext y
  show List.lookup y [(n2, v2), (n1, v1)] = _
  rw [lookup_c, lookup_c]
  by_cases h1 : y = n1
  · subst h1; rw [if_neg hn, if_pos rfl, if_pos rfl]
  · rw [if_neg h1, if_neg h1]; rfl
theorem binds_3 {b : List (Str × Value)} {n1 n2 n3 : Str} {v1 v2 v3 : Value} (h : b = [(n1, v1), (n2, v2), (n3, v3)]) (h12 : n1 ≠ n2) (h13 : n1 ≠ n3) (h23 : n2 ≠ n3) :
    (fun y => b.reverse.lookup y) = fun y => if y = n1 then some v1 else if y = n2 then some v2 else if y = n3 then some v3 else none := by
  subst h; funext y
  show List.lookup y [(n3, v3), (n2, v2), (n1, v1)] = _
  rw [lookup_c, lookup_c, lookup_c]
  by_cases h1 : y = n1
  · subst h1; rw [if_neg h13, if_neg h12, if_pos rfl, if_pos rfl]
  · rw [if_neg h1, if_neg h1]
    by_cases h2 : y = n2
    · subst h2; rw [if_neg h23, if_pos rfl, if_pos rfl]
    · rw [if_neg h2, if_neg h2]; rfl
end Mine
end

section
open PySem PySem.W PySem.Calls PyProof.Rows
namespace Mine
section
variable {w : World} {A : Around} {E : Value → Shared → Prop} {s : Shared} {env : Env} {h₀ : Heap} {x : Str} {body : List Stmt} {Q : Flow → Shared → Prop}

/-- what a turn of a loop ends in: the iterator stands, and the word J of the names and the ledger -/
noncomputable def TurnEnd (h₀ : Heap) (L : Addr) (s₁ : Shared) (I : Addr) (it : Obj) (J : (Str → Option Value) → List (Addr × Obj) → Prop) (s₂ : Shared) : Prop :=
  ∃ h' tk m' news', s₂ = { s₁ with heap := h', toks := tk } ∧ Fr h₀ L h' m' ∧ News h₀ L h' ((I, it) :: news') ∧ (∀ p ∈ news', p.1 ≠ I) ∧ J m' news'
noncomputable def TurnPost (h₀ : Heap) (L : Addr) (s₁ : Shared) (I : Addr) (it : Obj) (J : (Str → Option Value) → List (Addr × Obj) → Prop) (Q : Flow → Shared → Prop) (f : Flow) (s₂ : Shared) : Prop :=
  match f with
  | .ret v => Q (.ret v) s₂
  | .brk => Q .next s₂
  | _ => TurnEnd h₀ L s₁ I it J s₂

theorem TurnPost.next {L I : Addr} {it : Obj} {J : (Str → Option Value) → List (Addr × Obj) → Prop} {s₁ : Shared} {h' : Heap} {tk : Nat} {m' : Str → Option Value} {all news' : List (Addr × Obj)} (F : Fr h₀ L h' m') (N : News h₀ L h' all)
    (sub : ∀ p ∈ (I, it) :: news', p ∈ all) (off : ∀ p ∈ news', p.1 ≠ I) (r : J m' news') : TurnPost h₀ L s₁ I it J Q .next { s₁ with heap := h', toks := tk } := ⟨h', tk, m', news', rfl, F, fun p hp => N p (sub p hp), off, r⟩

theorem TurnPost.toUnr {L I : Addr} {it : Obj} {J R : (Str → Option Value) → List (Addr × Obj) → Prop} {s₁ s₂ : Shared} {f : Flow} (k : ∀ m n, (∀ p ∈ n, p.1 ≠ I) → J m n → R m n) (h : TurnPost h₀ L s₁ I it J Q f s₂) : UnrPost h₀ L s₁ I it R Q f s₂ := by
  have go : TurnEnd h₀ L s₁ I it J s₂ → UnrEnd h₀ L s₁ I it R s₂ := by
    rintro ⟨h', tk, m', news', e, F, N, off, r⟩
    exact ⟨h', tk, m', news', e, F, N, off, k _ _ off r⟩
  cases f with
  | ret v => exact h
  | brk => exact h
  | next => exact go h
  | cont => exact go h

theorem rangeRest_J {I : Addr} {a : Int} {n : Nat} (J : Nat → (Str → Option Value) → List (Addr × Obj) → Prop)
    (turn : ∀ i m news t h tk, i < n → J i m news → (∀ p ∈ news, p.1 ≠ I) → Fr h₀ env.locals h (fun y => if y = x then some (.int (a + (i : Int)) t) else m y) →
      News h₀ env.locals h ((I, itR (a + ((i + 1 : Nat) : Int)) ((n : Int) - ((i + 1 : Nat) : Int))) :: news) →
      wpAny (model PG w) A (execs body env) (TurnPost h₀ env.locals { s with heap := h, toks := tk } I (itR (a + ((i + 1 : Nat) : Int)) ((n : Int) - ((i + 1 : Nat) : Int))) (J (i + 1)) Q) E { s with heap := h, toks := tk })
    (done : ∀ m news h tk, J n m news → Fr h₀ env.locals h m → News h₀ env.locals h news → Q .next { s with heap := h, toks := tk }) :
    ∀ (k i : Nat) (m : Str → Option Value) (news : List (Addr × Obj)), i + k = n → (∀ p ∈ news, p.1 ≠ I) → J i m news → RangeRest PG w A E h₀ env x body Q s I a n k i m news
  | 0, i, m, news, e, _, hj => RangeRest.zero fun h tk F N => done m news h tk (by rw [← e, Nat.add_zero]; exact hj) F N
  | k + 1, i, m, news, e, off, hj => RangeRest.succ fun t h tk F N =>
    wpAny_mono (turn i m news t h tk (by omega) hj off F N) (fun _ _ p => p.toUnr fun m' n' o' j' => rangeRest_J J turn done k (i + 1) m' n' (by omega) o' j') fun _ _ e => e

/-- a loop over a range by a word J over the turn's number, the frame's names and the ledger -/
theorem iterJ_range {r : Addr} {a₀ b₀ : Int} {t₀ u₀ v₀ : Tok} {n : Nat} {m₀ : Str → Option Value} {news : List (Addr × Obj)} (J : Nat → (Str → Option Value) → List (Addr × Obj) → Prop)
    (hh : A.handled = none) (hr : IsRange s.heap r a₀ b₀ 1 t₀ u₀ v₀) (hsmall : Builtin.Range.small a₀ b₀ 1 = true) (hn : Builtin.Range.rangeSize a₀ b₀ 1 = (n : Int)) (F : Fr h₀ env.locals s.heap m₀) (N : News h₀ env.locals s.heap news) (hj : J 0 m₀ news)
    (turn : ∀ I i m news t h tk, i < n → J i m news → (∀ p ∈ news, p.1 ≠ I) → Fr h₀ env.locals h (fun y => if y = x then some (.int (a₀ + (i : Int)) t) else m y) →
      News h₀ env.locals h ((I, itR (a₀ + ((i + 1 : Nat) : Int)) ((n : Int) - ((i + 1 : Nat) : Int))) :: news) →
      wpAny (model PG w) A (execs body env) (TurnPost h₀ env.locals { s with heap := h, toks := tk } I (itR (a₀ + ((i + 1 : Nat) : Int)) ((n : Int) - ((i + 1 : Nat) : Int))) (J (i + 1)) Q) E { s with heap := h, toks := tk })
    (done : ∀ m news h tk, J n m news → Fr h₀ env.locals h m → News h₀ env.locals h news → Q .next { s with heap := h, toks := tk }) :
    wpAny (model PG w) A (pyIter (.ref r)) (fun it s₂ => LoopAtV PG w A h₀ env x body Q E it s₂) E s :=
  iter_rangeUnr hh hr hsmall hn F N fun I hI => rangeRest_J J (turn I) done n 0 m₀ news (Nat.zero_add _) (fun p hp => Nat.ne_of_lt (hI p hp)) hj

/-- the same from nought on -/
theorem iterJ_range0 {r : Addr} {t₀ u₀ v₀ : Tok} {n : Nat} {m₀ : Str → Option Value} {news : List (Addr × Obj)} (J : Nat → (Str → Option Value) → List (Addr × Obj) → Prop)
    (hh : A.handled = none) (hr : IsRange s.heap r 0 (n : Int) 1 t₀ u₀ v₀) (hn : n < 1000) (F : Fr h₀ env.locals s.heap m₀) (N : News h₀ env.locals s.heap news) (hj : J 0 m₀ news)
    (turn : ∀ I it i m news t h tk, i < n → J i m news → (∀ p ∈ news, p.1 ≠ I) → Fr h₀ env.locals h (fun y => if y = x then some (.int (i : Int) t) else m y) →
      News h₀ env.locals h ((I, it) :: news) →
      wpAny (model PG w) A (execs body env) (TurnPost h₀ env.locals { s with heap := h, toks := tk } I it (J (i + 1)) Q) E { s with heap := h, toks := tk })
    (done : ∀ m news h tk, J n m news → Fr h₀ env.locals h m → News h₀ env.locals h news → Q .next { s with heap := h, toks := tk }) :
    wpAny (model PG w) A (pyIter (.ref r)) (fun it s₂ => LoopAtV PG w A h₀ env x body Q E it s₂) E s :=
  iterJ_range J hh hr (small_one (by omega) (by omega) (by omega) (by omega)) (by rw [rangeSize_nat]; omega) F N hj (fun I i m news t h tk hi hj off F N => by
    rw [Int.zero_add] at F
    exact turn I _ i m news t h tk hi hj off F N) done

theorem listRest_J {I : Addr} {lp : Addr × Obj} {vs : List Value} (J : Nat → (Str → Option Value) → List (Addr × Obj) → Prop) (hlp : ∀ i m news, J i m news → lp ∈ news)
    (turn : ∀ i v m news it h tk, vs[i]? = some v → J i m news → (∀ p ∈ news, p.1 ≠ I) → Fr h₀ env.locals h (fun y => if y = x then some v else m y) →
      News h₀ env.locals h ((I, it) :: news) →
      wpAny (model PG w) A (execs body env) (TurnPost h₀ env.locals { s with heap := h, toks := tk } I it (J (i + 1)) Q) E { s with heap := h, toks := tk })
    (done : ∀ m news h tk, J vs.length m news → Fr h₀ env.locals h m → News h₀ env.locals h news → Q .next { s with heap := h, toks := tk }) :
    ∀ (r : List Value) (i : Nat) (m : Str → Option Value) (news : List (Addr × Obj)), vs.drop i = r → i ≤ vs.length → (∀ p ∈ news, p.1 ≠ I) → J i m news → ListRest PG w A E h₀ env x body Q s I lp r m news
  | [], i, m, news, e, hi, _, hj => ListRest.zero fun h tk F N => done m news h tk (by
      have : vs.length ≤ i := List.drop_eq_nil_iff.mp e
      have : i = vs.length := by omega
      rw [← this]; exact hj) F N
  | v :: r, i, m, news, e, hi, off, hj => ListRest.succ fun it h tk _ F N => by
    have hv : vs[i]? = some v := by
      have := congrArg List.head? e
      rwa [List.head?_drop, List.head?_cons] at this
    have hlt : i < vs.length := by
      rcases Nat.lt_or_ge i vs.length with h | h
      · exact h
      · rw [List.getElem?_eq_none h] at hv; cases hv
    have hr : vs.drop (i + 1) = r := by
      rw [← List.drop_drop, e]; rfl
    exact wpAny_mono (turn i v m news it h tk hv hj off F N) (fun _ _ p => p.toUnr fun m' n' o' j' => ⟨hlp _ _ _ j', listRest_J J hlp turn done r (i + 1) m' n' hr hlt o' j'⟩) fun _ _ e => e

/-- a loop over a list of the ledger by a word J -/
theorem iterJ_list {ax : Addr} {lo : Obj} {vs : List Value} {n : Nat} {m₀ : Str → Option Value} {news : List (Addr × Obj)} (J : Nat → (Str → Option Value) → List (Addr × Obj) → Prop)
    (hh : A.handled = none) (F : Fr h₀ env.locals s.heap m₀) (N : News h₀ env.locals s.heap news) (hc : lo.cls = .type "list") (hd : lo.data = .seq vs.toArray n) (hlp : ∀ i m news, J i m news → (ax, lo) ∈ news) (hj : J 0 m₀ news)
    (turn : ∀ I i v m news it h tk, vs[i]? = some v → J i m news → (∀ p ∈ news, p.1 ≠ I) → Fr h₀ env.locals h (fun y => if y = x then some v else m y) →
      News h₀ env.locals h ((I, it) :: news) →
      wpAny (model PG w) A (execs body env) (TurnPost h₀ env.locals { s with heap := h, toks := tk } I it (J (i + 1)) Q) E { s with heap := h, toks := tk })
    (done : ∀ m news h tk, J vs.length m news → Fr h₀ env.locals h m → News h₀ env.locals h news → Q .next { s with heap := h, toks := tk }) :
    wpAny (model PG w) A (pyIter (.ref ax)) (fun it s₂ => LoopAtV PG w A h₀ env x body Q E it s₂) E s :=
  iter_listUnr hh F N (hlp _ _ _ hj) hc hd fun I hI => listRest_J J hlp (turn I) done vs 0 m₀ news rfl (Nat.zero_le _) (fun p hp => Nat.ne_of_lt (hI p hp)) hj

/-- behind a loop: the names and the ledger, and a word of them -/
noncomputable def LoopEnd (h₀ : Heap) (L : Addr) (s : Shared) (Post : (Str → Option Value) → List (Addr × Obj) → Prop) (f : Flow) (s₂ : Shared) : Prop :=
  f = .next ∧ ∃ h tk m news, s₂ = { s with heap := h, toks := tk } ∧ Fr h₀ L h m ∧ News h₀ L h news ∧ Post m news
theorem LoopEnd.mk {L : Addr} {Post : (Str → Option Value) → List (Addr × Obj) → Prop} {h : Heap} {tk : Nat} {m : Str → Option Value} {news : List (Addr × Obj)} (F : Fr h₀ L h m) (N : News h₀ L h news) (hp : Post m news) :
    LoopEnd h₀ L s Post .next { s with heap := h, toks := tk } := ⟨rfl, h, tk, m, news, rfl, F, N, hp⟩

/-- a while by a word and a measure; what follows is walked once -/
theorem while_cut {L : Addr} {test : Expr} {pos : Pos} {m : Str → Option Value} {news : List (Addr × Obj)} (J : Nat → (Str → Option Value) → List (Addr × Obj) → Prop) (Post : (Str → Option Value) → List (Addr × Obj) → Prop) {n₀ : Nat}
    (F : Fr h₀ L s.heap m) (N : News h₀ L s.heap news) (hJ : J n₀ m news)
    (turn : ∀ n m₁ news₁ h₁ tk₁, Fr h₀ L h₁ m₁ → News h₀ L h₁ news₁ → J n m₁ news₁ →
      wpAny (model PG w) A (isTrue test env (eval test env)) (fun b s₂ =>
        if b = true then wpAny (model PG w) A (execs body env) (WhileStep2 h₀ L s J (LoopEnd h₀ L s Post) n) E s₂ else LoopEnd h₀ L s Post .next s₂) E { s with heap := h₁, toks := tk₁ })
    (cont : ∀ m₁ news₁ h₁ tk₁, Fr h₀ L h₁ m₁ → News h₀ L h₁ news₁ → Post m₁ news₁ → Q .next { s with heap := h₁, toks := tk₁ })
    (hE : PassesOwn (model PG w) A env E) :
    wpAny (model PG w) A (exec (.While test body [] pos) env) Q E s :=
  wpAny_mono (While_inv2 J F N hJ turn hE) (fun f s₂ ⟨hf, h, tk, m₁, news₁, e, F₁, N₁, hp⟩ => by subst hf; subst e; exact cont m₁ news₁ h tk F₁ N₁ hp) fun _ _ e => e
theorem WhileStep2.go {L : Addr} {J : Nat → (Str → Option Value) → List (Addr × Obj) → Prop} {n n' : Nat} {h : Heap} {tk : Nat} {m : Str → Option Value} {news : List (Addr × Obj)} (F : Fr h₀ L h m) (N : News h₀ L h news) (hn : n' < n) (hj : J n' m news) :
    WhileStep2 h₀ L s J Q n .next { s with heap := h, toks := tk } := ⟨h, tk, m, news, n', rfl, F, N, hn, hj⟩

/-- a statement whose ways meet: what follows is walked once -/
theorem stmt_cut {L : Addr} {st : Stmt} (Post : (Str → Option Value) → List (Addr × Obj) → Prop) (h : wpAny (model PG w) A (exec st env) (LoopEnd h₀ L s Post) E s)
    (cont : ∀ m₁ news₁ h₁ tk₁, Fr h₀ L h₁ m₁ → News h₀ L h₁ news₁ → Post m₁ news₁ → Q .next { s with heap := h₁, toks := tk₁ }) : wpAny (model PG w) A (exec st env) Q E s :=
  wpAny_mono h (fun f s₂ ⟨hf, h, tk, m₁, news₁, e, F₁, N₁, hp⟩ => by subst hf; subst e; exact cont m₁ news₁ h tk F₁ N₁ hp) fun _ _ e => e
/-- the same where a way may return -/
noncomputable def RetOr (h₀ : Heap) (L : Addr) (s : Shared) (Post : (Str → Option Value) → List (Addr × Obj) → Prop) (Q : Flow → Shared → Prop) (f : Flow) (s₂ : Shared) : Prop :=
  (∃ v, f = .ret v ∧ Q (.ret v) s₂) ∨ LoopEnd h₀ L s Post f s₂
theorem stmt_cutR {L : Addr} {st : Stmt} (Post : (Str → Option Value) → List (Addr × Obj) → Prop) (h : wpAny (model PG w) A (exec st env) (RetOr h₀ L s Post Q) E s)
    (cont : ∀ m₁ news₁ h₁ tk₁, Fr h₀ L h₁ m₁ → News h₀ L h₁ news₁ → Post m₁ news₁ → Q .next { s with heap := h₁, toks := tk₁ }) : wpAny (model PG w) A (exec st env) Q E s :=
  wpAny_mono h (fun f s₂ hr => by
    rcases hr with ⟨v, rfl, hq⟩ | ⟨rfl, h, tk, m₁, news₁, rfl, F₁, N₁, hp⟩
    · exact hq
    · exact cont m₁ news₁ h tk F₁ N₁ hp) fun _ _ e => e
end
end Mine
end

section
open PySem PySem.W PySem.Calls PyProof.Rows
namespace Mine
section
variable {w : World} {A : Around} {E : Value → Shared → Prop} {s : Shared} {env : Env} {h₀ : Heap} {m : Str → Option Value} {news : List (Addr × Obj)}
  {x y : Str} {ifs : List Expr} {elt : Expr} {scope : Scope} {cl : List (Str × Addr)} {p : Value → Bool} {R : Value → Value → Prop}

/-- the ends of an element and of a test -/
noncomputable def CEnd (R : Value → Value → Prop) (v : Value) (s₃ : Shared) (y : Value) (s₄ : Shared) : Prop := R v y ∧ Keeps s₃ s₄
noncomputable def TEnd (b : Bool) (s₃ : Shared) (ok : Bool) (s₄ : Shared) : Prop := ok = b ∧ Keeps s₃ s₄
theorem CEnd.mk {R : Value → Value → Prop} {v y : Value} {s₃ : Shared} {h' : Heap} {tk : Nat} (k : s₃.heap.StaysIn h') (h : R v y) : CEnd R v s₃ y { s₃ with heap := h', toks := tk } := ⟨h, h', tk, rfl, k⟩
theorem TEnd.mk {b ok : Bool} {s₃ : Shared} {h' : Heap} {tk : Nat} (k : s₃.heap.StaysIn h') (h : ok = b) : TEnd b s₃ ok { s₃ with heap := h', toks := tk } := ⟨h, h', tk, rfl, k⟩
noncomputable def pInt (q : Int → Bool) : Value → Bool
  | .int k _ => q k
  | _ => false
abbrev CTest (w : World) (A : Around) (ifs : List Expr) (cenv : Env) (b : Bool) (E' : Value → Shared → Prop) (s₃ : Shared) : Prop :=
  wpAny (model PG w) A (forIn ifs true fun c r => if r = true then do let ok ← isTrue c cenv (eval c cenv); pure (ForInStep.yield ok) else pure (ForInStep.yield r))
    (TEnd b s₃) E' s₃

/-- a comprehension's source: the iterator's walk, from the heap g on -/
noncomputable def Src (w : World) (A : Around) (g : Heap) (it : Value) (s₂ : Shared) (n : Nat) (P : Nat → Value → Prop) : Prop :=
  ∃ I fp wr St, it = .ref I ∧ Walks PG w A I fp wr n P St ∧ n ≤ sizeLine ∧ St 0 s₂.heap ∧ (∀ b ∈ fp, b < s₂.heap.objs.size) ∧ (∀ b ∈ wr, g.objs.size ≤ b) ∧ (∀ b o, g.get? b = some o → s₂.heap.get? b = some o) ∧ g.objs.size ≤ s₂.heap.objs.size

theorem src_list {ax : Addr} {vs : List Value} {Q : Value → Shared → Prop} (hh : A.handled = none) (hl : s.heap.IsList ax vs.toArray) (hsz : vs.length ≤ sizeLine)
    (h : ∀ it s₂, (∃ h₂, s₂ = { s with heap := h₂ }) → Src w A s.heap it s₂ vs.length (fun i v => vs[i]? = some v) → Q it s₂) : wpAny (model PG w) A (pyIter (.ref ax)) Q E s := by
  have hlt : ax < s.heap.objs.size := by obtain ⟨_, e, _⟩ := hl; exact Heap.lt_size e
  refine wpAny_pyIter_list hl (h _ _ ⟨_, rfl⟩ ⟨s.heap.objs.size, [s.heap.objs.size, ax], [s.heap.objs.size], fun i h => h.IsListIter s.heap.objs.size ax i ∧ h.IsList ax vs.toArray, rfl, ?_, hsz, ⟨⟨_, Heap.get?_push_size _ rfl, rfl, rfl⟩, hl.push _⟩, ?_, ?_, ?_, ?_⟩)
  · have W := Walks.list (prog := PG) (w := w) hh s.heap.objs.size ax (Nat.ne_of_lt hlt) vs.toArray
    simpa using W
  · intro b hb
    show b < (s.heap.push _).objs.size
    rw [Heap.size_push]
    rcases List.mem_cons.mp hb with rfl | hb
    · exact Nat.lt_succ_self _
    · rcases List.mem_cons.mp hb with rfl | hb
      · exact Nat.lt_succ_of_lt hlt
      · cases hb
  · intro b hb; rw [List.mem_singleton.mp hb]; exact Nat.le_refl _
  · intro b o e; exact Heap.get?_push_of_some _ e
  · show s.heap.objs.size ≤ (s.heap.push _).objs.size
    rw [Heap.size_push]; exact Nat.le_succ _

theorem src_range {r : Addr} {n : Nat} {t u v : Tok} {Q : Value → Shared → Prop} (hh : A.handled = none) (hr : IsRange s.heap r 0 (n : Int) 1 t u v) (hsz : n < 1000)
    (h : ∀ it s₂, (∃ h₂, s₂ = { s with heap := h₂ }) → Src w A s.heap it s₂ n (fun i v => i < n ∧ ∃ t, v = .int (i : Int) t) → Q it s₂) : wpAny (model PG w) A (pyIter (.ref r)) Q E s := by
  have hlt : r < s.heap.objs.size := Heap.lt_size hr
  have hn : Builtin.Range.rangeSize 0 (n : Int) 1 = (n : Int) := by rw [rangeSize_nat]; omega
  refine wpAny_pyIter_range hr (small_one (by omega) (by omega) (by omega) (by omega)) (h _ _ ⟨_, rfl⟩ ⟨s.heap.objs.size, [s.heap.objs.size], [s.heap.objs.size], fun i h => IsRangeIter h s.heap.objs.size (0 + (i : Nat) * 1) ((n : Int) - (i : Nat)) 1, rfl, ?_, Nat.le_trans (Nat.le_of_lt hsz) (by decide), ?_, ?_, ?_, ?_, ?_⟩)
  · have W := (Walks.range (prog := PG) (w := w) hh s.heap.objs.size 0 1 n).bound
    have e : (fun (i : Nat) (v : Value) => i < n ∧ ∃ t, v = Value.int (0 + (i : Int) * 1) t) = fun (i : Nat) (v : Value) => i < n ∧ ∃ t, v = Value.int (i : Int) t := by
      funext i v; simp
    rw [e] at W
    exact W
  · show IsRangeIter _ _ _ _ _; rw [hn]; simpa using Heap.get?_push_size _ rfl
  · intro b hb
    show b < (s.heap.push _).objs.size
    rw [Heap.size_push, List.mem_singleton.mp hb]; exact Nat.lt_succ_self _
  · intro b hb; rw [List.mem_singleton.mp hb]; exact Nat.le_refl _
  · intro b o e; exact Heap.get?_push_of_some _ e
  · show s.heap.objs.size ≤ (s.heap.push _).objs.size
    rw [Heap.size_push]; exact Nat.le_succ _

theorem quiet_of {g : Heap} {wr : List Addr} {P : Nat → Value → Prop} {s₂ : Shared} (hg : ∀ b o, g.get? b = some o → s₂.heap.get? b = some o) (hwr : ∀ b ∈ wr, g.objs.size ≤ b) (hle : g.objs.size ≤ s₂.heap.objs.size)
    (tests : ∀ C i v s₃ m₃ E', P i v → Fr g C s₃.heap m₃ → m₃ x = some v → CTest w A ifs (compEnvC scope cl C env) (p v) E' s₃)
    (helt : ∀ C i v s₃ m₃ E', P i v → p v = true → Fr g C s₃.heap m₃ → m₃ x = some v → wpAny (model PG w) A (eval elt (compEnvC scope cl C env)) (CEnd R v s₃) E' s₃) :
    QuietOnC PG w A env scope cl x ifs elt wr P p R s₂ := by
  have up : ∀ {s₃ : Shared}, (∀ b o, b ∉ wr → s₂.heap.get? b = some o → s₃.heap.get? b = some o) → ∀ b o, g.get? b = some o → s₃.heap.get? b = some o := fun hk b o e =>
    hk b o (fun hb => Nat.lt_irrefl _ (Nat.lt_of_lt_of_le (Heap.lt_size e) (hwr b hb))) (hg b o e)
  exact ⟨fun C i v s₃ m₃ E' hC hP hn hm hk _ => tests C i v s₃ m₃ E' hP ⟨hn, up hk, Nat.le_trans hle hC⟩ hm,
    fun C i v s₃ m₃ E' hC hP hp hn hm hk _ => helt C i v s₃ m₃ E' hP hp ⟨hn, up hk, Nat.le_trans hle hC⟩ hm⟩


theorem paired_at {α β : Type} {S : α → β → Prop} : ∀ {l₁ : List α} {l₂ : List β}, Paired S l₁ l₂ → l₂.length = l₁.length ∧ ∀ (j : Nat) (y : β), l₂[j]? = some y → ∃ v, l₁[j]? = some v ∧ S v y
  | _, _, .nil => ⟨rfl, fun j y e => by simp at e⟩
  | _, _, .cons h t => by
    obtain ⟨e, k⟩ := paired_at t
    refine ⟨by simp [e], fun j y ej => ?_⟩
    cases j with
    | zero => simp at ej; subst ej; exact ⟨_, rfl, h⟩
    | succ j => simp at ej; obtain ⟨v, hv, hs⟩ := k j y ej; exact ⟨v, by simpa using hv, hs⟩
theorem ints_of : ∀ {ys : List Value} {ms : List Int}, ys.length = ms.length → (∀ (j : Nat) (y : Value) (n : Int), ys[j]? = some y → ms[j]? = some n → ∃ t, y = .int n t) → IntsAre ys ms
  | [], [], _, _ => .nil
  | y :: ys, n :: ms, h, k => by
    obtain ⟨t, rfl⟩ := k 0 y n rfl rfl
    exact .cons _ _ (ints_of (by simpa using h) fun j y' n' e e' => k (j + 1) y' n' (by simpa using e) (by simpa using e'))
theorem ints_filter (q : Int → Bool) : ∀ {vs : List Value} {ns : List Int}, IntsAre vs ns → IntsAre (vs.filter (pInt q)) (ns.filter q)
  | _, _, .nil => .nil
  | _, _, .cons n t r => by
    cases hq : q n with
    | true => rw [List.filter_cons_of_pos (show pInt q (.int n t) = true from hq), List.filter_cons_of_pos hq]; exact .cons _ _ (ints_filter q r)
    | false => rw [List.filter_cons_of_neg (show ¬ pInt q (.int n t) = true by rw [show pInt q (.int n t) = q n from rfl, hq]; decide), List.filter_cons_of_neg (by simp [hq])]; exact ints_filter q r
theorem paired_eq {α : Type} : ∀ {l₁ l₂ : List α}, Paired (fun v y => y = v) l₁ l₂ → l₂ = l₁
  | _, _, .nil => rfl
  | _, _, .cons h t => by rw [h, paired_eq t]
theorem all_true_filter {α : Type} (l : List α) : l.filter (fun _ => true) = l := by simp

/-- the end of a comprehension that is a value -/
theorem comp_eval {g : Heap} {it : Value} {s₂ : Shared} {n : Nat} {P : Nat → Value → Prop} {Q : Value → Shared → Prop} (S : Src w A g it s₂ n P)
    (tests : ∀ C i v s₃ m₃ E', P i v → Fr g C s₃.heap m₃ → m₃ x = some v → CTest w A ifs (compEnvC scope cl C env) (p v) E' s₃)
    (helt : ∀ C i v s₃ m₃ E', P i v → p v = true → Fr g C s₃.heap m₃ → m₃ x = some v → wpAny (model PG w) A (eval elt (compEnvC scope cl C env)) (CEnd R v s₃) E' s₃)
    (done : ∀ D k (ys vs : List Value) h' tk, vs.length = n → (∀ j v, vs[j]? = some v → P j v) → Paired R (vs.filter p) ys → g.StaysIn h' → NewOf g h' [(D, listOf ys.toArray k)] → Q (.ref D) { s₂ with heap := h', toks := tk }) :
    ∃ I fp wr n P St, it = .ref I ∧ Walks PG w A I fp wr n P St ∧ n ≤ sizeLine ∧ St 0 s₂.heap ∧ (∀ b ∈ fp, b < s₂.heap.objs.size) ∧
      QuietOnC PG w A env scope cl x ifs elt wr P p R s₂ ∧
      (∀ D h' tk ys (vs : List Value), s₂.heap.get? D = none → h'.IsList D ys → h'.PlainList D ys → vs.length = n → (∀ j v, vs[j]? = some v → P j v) → Paired R (vs.filter p) ys.toList →
        (∀ b o, b ∉ wr → s₂.heap.get? b = some o → h'.get? b = some o) → Q (.ref D) { s₂ with heap := h', toks := tk }) := by
  obtain ⟨I, fp, wr, St, rfl, W, hsz, hst, hfp, hwr, hg, hle⟩ := S
  refine ⟨I, fp, wr, n, P, St, rfl, W, hsz, hst, hfp, quiet_of hg hwr hle tests helt, fun D h' tk ys vs hD _ hpl hlen hP hF hk => ?_⟩
  obtain ⟨k, hk'⟩ := hpl
  refine done D k ys.toList vs h' tk hlen hP hF (fun b o e => hk b o (fun hb => Nat.lt_irrefl _ (Nat.lt_of_lt_of_le (Heap.lt_size e) (hwr b hb))) (hg b o e)) fun q hq => ?_
  rw [List.mem_singleton.mp hq]
  refine ⟨by simpa using hk', ?_⟩
  cases e : g.get? D with
  | none => rfl
  | some o => rw [hg D o e] at hD; cases hD

/-- the end of a comprehension that is stored in a name at once -/
theorem comp_assign {g : Heap} {it : Value} {s₂ : Shared} {n : Nat} {P : Nat → Value → Prop} {Q : Flow → Shared → Prop} (S : Src w A g it s₂ n P) (F : Fr h₀ env.locals g m) (N : News h₀ env.locals g news)
    (tests : ∀ C i v s₃ m₃ E', P i v → Fr g C s₃.heap m₃ → m₃ x = some v → CTest w A ifs (compEnvC scope cl C env) (p v) E' s₃)
    (helt : ∀ C i v s₃ m₃ E', P i v → p v = true → Fr g C s₃.heap m₃ → m₃ x = some v → wpAny (model PG w) A (eval elt (compEnvC scope cl C env)) (CEnd R v s₃) E' s₃)
    (done : ∀ D k (ys vs : List Value) h' tk, vs.length = n → (∀ j v, vs[j]? = some v → P j v) → Paired R (vs.filter p) ys → Fr h₀ env.locals h' (fun z => if z = y then some (.ref D) else m z) → News h₀ env.locals h' ((D, listOf ys.toArray k) :: news) → (∀ q ∈ news, q.1 ≠ D) → Q .next { s₂ with heap := h', toks := tk }) :
    ∃ I fp wr n P St m, it = .ref I ∧ Walks PG w A I fp wr n P St ∧ n ≤ sizeLine ∧ St 0 s₂.heap ∧ (∀ b ∈ fp, b < s₂.heap.objs.size) ∧
      env.locals ∉ wr ∧ s₂.heap.Ns env.locals m ∧ QuietOnC PG w A env scope cl x ifs elt wr P p R s₂ ∧
      (∀ D h' tk ys (vs : List Value), s₂.heap.get? D = none → h'.IsList D ys → h'.PlainList D ys → vs.length = n → (∀ j v, vs[j]? = some v → P j v) → Paired R (vs.filter p) ys.toList →
        h'.Ns env.locals (fun z => if z = y then some (.ref D) else m z) → (∀ b o, b ≠ env.locals → b ∉ wr → s₂.heap.get? b = some o → h'.get? b = some o) → Q .next { s₂ with heap := h', toks := tk }) := by
  obtain ⟨I, fp, wr, St, rfl, W, hsz, hst, hfp, hwr, hg, hle⟩ := S
  have old : ∀ {b o}, g.get? b = some o → b ∉ wr := fun {b o} e hb => Nat.lt_irrefl _ (Nat.lt_of_lt_of_le (Heap.lt_size e) (hwr b hb))
  obtain ⟨oL, es, ep, hL, rL⟩ := F.ns
  refine ⟨I, fp, wr, n, P, St, m, rfl, W, hsz, hst, hfp, old hL, ⟨oL, es, ep, hg _ _ hL, rL⟩, quiet_of hg hwr hle tests helt, fun D h' tk ys vs hD _ hpl hlen hP hF hns hk => ?_⟩
  obtain ⟨k, hk'⟩ := hpl
  have gD : g.get? D = none := by
    cases e : g.get? D with
    | none => rfl
    | some o => rw [hg D o e] at hD; cases hD
  have hne : ∀ q ∈ news, q.1 ≠ D := fun q hq e => by have := (N q hq).1; rw [e, gD] at this; cases this
  refine done D k ys.toList vs h' tk hlen hP hF ⟨hns, fun b o e => ?_, F.above⟩ (fun q hq => ?_) hne
  · exact hk b o (fun q => Nat.lt_irrefl _ (Nat.lt_of_lt_of_le (q ▸ Heap.lt_size e) F.above)) (old (F.keep b o e)) (hg b o (F.keep b o e))
  · rcases List.mem_cons.mp hq with rfl | hq
    · refine ⟨by simpa using hk', fun e => ?_, ?_⟩
      · have e' : D = env.locals := e
        rw [e', hL] at gD; cases gD
      · cases e : h₀.get? D with
        | none => rfl
        | some o => have := F.keep D o e; rw [gD] at this; cases this
    · exact ⟨hk _ _ (N q hq).2.1 (old (N q hq).1) (hg _ _ (N q hq).1), (N q hq).2⟩

/-- the same without tests -/
theorem comp_evalT {g : Heap} {it : Value} {s₂ : Shared} {n : Nat} {P : Nat → Value → Prop} {Q : Value → Shared → Prop} (S : Src w A g it s₂ n P)
    (helt : ∀ C i v s₃ m₃ E', P i v → Fr g C s₃.heap m₃ → m₃ x = some v → wpAny (model PG w) A (eval elt (compEnvC scope cl C env)) (CEnd R v s₃) E' s₃)
    (done : ∀ D k (ys : List Value) h' tk, ys.length = n → (∀ j y, ys[j]? = some y → ∃ v, P j v ∧ R v y) → g.StaysIn h' → NewOf g h' [(D, listOf ys.toArray k)] → Q (.ref D) { s₂ with heap := h', toks := tk }) :
    ∃ I fp wr n P St, it = .ref I ∧ Walks PG w A I fp wr n P St ∧ n ≤ sizeLine ∧ St 0 s₂.heap ∧ (∀ b ∈ fp, b < s₂.heap.objs.size) ∧
      QuietOnC PG w A env scope cl x [] elt wr P (fun _ => true) R s₂ ∧
      (∀ D h' tk ys (vs : List Value), s₂.heap.get? D = none → h'.IsList D ys → h'.PlainList D ys → vs.length = n → (∀ j v, vs[j]? = some v → P j v) → Paired R (vs.filter fun _ => true) ys.toList →
        (∀ b o, b ∉ wr → s₂.heap.get? b = some o → h'.get? b = some o) → Q (.ref D) { s₂ with heap := h', toks := tk }) :=
  comp_eval S (fun _ _ _ _ _ _ _ _ _ => wpAny_pure ⟨rfl, _, _, rfl, fun _ _ e => e⟩) (fun C i v s₃ m₃ E' hP _ => helt C i v s₃ m₃ E' hP) fun D k ys vs h' tk hlen hP hF => by
    rw [all_true_filter] at hF
    obtain ⟨e, ka⟩ := paired_at hF
    exact done D k ys h' tk (e.trans hlen) fun j y ej => let ⟨v, hv, hr⟩ := ka j y ej; ⟨v, hP j v hv, hr⟩
theorem comp_assignT {g : Heap} {it : Value} {s₂ : Shared} {n : Nat} {P : Nat → Value → Prop} {Q : Flow → Shared → Prop} (S : Src w A g it s₂ n P) (F : Fr h₀ env.locals g m) (N : News h₀ env.locals g news)
    (helt : ∀ C i v s₃ m₃ E', P i v → Fr g C s₃.heap m₃ → m₃ x = some v → wpAny (model PG w) A (eval elt (compEnvC scope cl C env)) (CEnd R v s₃) E' s₃)
    (done : ∀ D k (ys : List Value) h' tk, ys.length = n → (∀ j y, ys[j]? = some y → ∃ v, P j v ∧ R v y) → Fr h₀ env.locals h' (fun z => if z = y then some (.ref D) else m z) → News h₀ env.locals h' ((D, listOf ys.toArray k) :: news) → (∀ q ∈ news, q.1 ≠ D) → Q .next { s₂ with heap := h', toks := tk }) :
    ∃ I fp wr n P St m, it = .ref I ∧ Walks PG w A I fp wr n P St ∧ n ≤ sizeLine ∧ St 0 s₂.heap ∧ (∀ b ∈ fp, b < s₂.heap.objs.size) ∧
      env.locals ∉ wr ∧ s₂.heap.Ns env.locals m ∧ QuietOnC PG w A env scope cl x [] elt wr P (fun _ => true) R s₂ ∧
      (∀ D h' tk ys (vs : List Value), s₂.heap.get? D = none → h'.IsList D ys → h'.PlainList D ys → vs.length = n → (∀ j v, vs[j]? = some v → P j v) → Paired R (vs.filter fun _ => true) ys.toList →
        h'.Ns env.locals (fun z => if z = y then some (.ref D) else m z) → (∀ b o, b ≠ env.locals → b ∉ wr → s₂.heap.get? b = some o → h'.get? b = some o) → Q .next { s₂ with heap := h', toks := tk }) :=
  comp_assign S F N (fun _ _ _ _ _ _ _ _ _ => wpAny_pure ⟨rfl, _, _, rfl, fun _ _ e => e⟩) (fun C i v s₃ m₃ E' hP _ => helt C i v s₃ m₃ E' hP) fun D k ys vs h' tk hlen hP hF => by
    rw [all_true_filter] at hF
    obtain ⟨e, ka⟩ := paired_at hF
    exact done D k ys h' tk (e.trans hlen) fun j y ej => let ⟨v, hv, hr⟩ := ka j y ej; ⟨v, hP j v hv, hr⟩

/-- a new object beside the ledger -/
theorem news_new {L : Addr} {h h' : Heap} {new : List (Addr × Obj)} (F : Fr h₀ L h m) (N : News h₀ L h news) (st : h.StaysIn h') (nw : NewOf h h' new) : Fr h₀ L h' m ∧ News h₀ L h' (new ++ news) ∧ (∀ q ∈ news, ∀ p ∈ new, q.1 ≠ p.1) := by
  obtain ⟨oL, es, ep, hL, _⟩ := F.ns
  refine ⟨F.grownK st, fun p hp => ?_, fun q hq p hp e => ?_⟩
  · rcases List.mem_append.mp hp with hp | hp
    · refine ⟨(nw p hp).1, fun e => ?_, ?_⟩
      · have := (nw p hp).2; rw [e, hL] at this; cases this
      · cases q : h₀.get? p.1 with
        | none => rfl
        | some o => have := (nw p hp).2; rw [F.keep _ _ q] at this; cases this
    · exact ⟨st _ _ (N p hp).1, (N p hp).2⟩
  · have := (nw p hp).2; rw [← e, (N q hq).1] at this; cases this

/-- no tests -/
theorem ctest_nil {cenv : Env} {E' : Value → Shared → Prop} {s₃ : Shared} : CTest w A [] cenv true E' s₃ := wpAny_pure ⟨rfl, s₃.heap, s₃.toks, rfl, fun _ _ e => e⟩

/-- one test -/
theorem ctest_one {c : Expr} {cenv : Env} {b : Bool} {E' : Value → Shared → Prop} {s₃ : Shared} (h : wpAny (model PG w) A (isTrue c cenv (eval c cenv)) (TEnd b s₃) E' s₃) : CTest w A [c] cenv b E' s₃ := by
  unfold CTest
  rw [List.forIn_cons]
  refine wpAny_bind ?_
  rw [if_pos rfl]
  refine wpAny_bind (wpAny_mono h (fun ok s₄ h₄ => ?_) fun _ _ e => e)
  refine wpAny_pure ?_
  dsimp only
  rw [List.forIn_nil]
  exact wpAny_pure h₄

-- names in a comprehension's own block
section
variable {C c : Addr} {g : Heap} {m₃ mg mb : Str → Option Value} {q : Str} {pos : Pos} {v : Value} {Q : Value → Shared → Prop}
theorem nameC_L (F : Fr g C s.heap m₃) (hv : m₃ q = some v) (h : Q v s) (hk : (compEnvC scope cl C env).scope.kind = .function) (hx : (compEnvC scope cl C env).kindOf q = some .local) (hd : (q == ("__debug__" : Str)) = false) :
    wpAny (model PG w) A (eval (.Name q pos) (compEnvC scope cl C env)) Q E s := wpAny_Name (wpAny_loadName_local hk hx F.ns hv h) hd
theorem nameC_C (F : Fr g C s.heap m₃) (hc : cl.lookup q = some c) (hcell : g.IsCell c (some v)) (h : Q v s) (hk : (compEnvC scope cl C env).scope.kind = .function) (hx : (compEnvC scope cl C env).kindOf q = some .cell) (hd : (q == ("__debug__" : Str)) = false) :
    wpAny (model PG w) A (eval (.Name q pos) (compEnvC scope cl C env)) Q E s := wpAny_Name (wpAny_loadName_cell hk hx hc (hcell.keeps F.keep) h) hd
end
end
end Mine
end

section
open PySem PySem.W PySem.Calls PyProof.Rows
namespace Mine
/-- eight kinds, each 0, 1 or 2, at most two of them 2 -/
noncomputable def KOk (ks : List Int) : Prop := ks.length = 8 ∧ (∀ k ∈ ks, 0 ≤ k ∧ k ≤ 2) ∧ (ks.filter (· == 2)).length ≤ 2

theorem foldl_set_length {α : Type} (b : α) (l : List Int) : ∀ a : List α, (l.foldl (fun a g => a.set g.toNat b) a).length = a.length := by
  induction l with
  | nil => intro a; rfl
  | cons g l ih => intro a; rw [List.foldl_cons, ih, List.length_set]
theorem foldl_set_mem {α : Type} (b : α) (l : List Int) : ∀ (a : List α) (x : α), x ∈ l.foldl (fun a g => a.set g.toNat b) a → x = b ∨ x ∈ a := by
  induction l with
  | nil => intro a x h; exact .inr h
  | cons g l ih =>
    intro a x h
    rcases ih _ x h with h | h
    · exact .inl h
    · rcases List.mem_or_eq_of_mem_set h with h | h
      · exact .inr h
      · exact .inl h
theorem foldl_set_map {α β : Type} (f : α → β) (b : α) (l : List Int) : ∀ a : List α, (l.foldl (fun a g => a.set g.toNat b) a).map f = l.foldl (fun a g => a.set g.toNat (f b)) (a.map f) := by
  induction l with
  | nil => intro a; rfl
  | cons g l ih => intro a; rw [List.foldl_cons, ih, List.map_set, List.foldl_cons]
/-- the places of the gates, as _law_kinds picks them -/
noncomputable def gatesOf (ks : List Int) : List Int := List.filter (fun k : Int => ks.getD k.toNat 0 == 2) [0, 1, 2, 3, 4, 5, 6, 7]
noncomputable def gatesB (bs : List Bool) : List Int := List.filter (fun k : Int => bs.getD k.toNat false) [0, 1, 2, 3, 4, 5, 6, 7]
theorem gates_bits : ∀ (a b c d e f g h : Bool), ((((gatesB [a, b, c, d, e, f, g, h]).drop 2).foldl (fun l g => l.set g.toNat false) [a, b, c, d, e, f, g, h]).filter id).length ≤ 2 := by decide +kernel
theorem list8 {α : Type} : ∀ {l : List α}, l.length = 8 → ∃ a b c d e f g h, l = [a, b, c, d, e, f, g, h]
  | [a, b, c, d, e, f, g, h], _ => ⟨a, b, c, d, e, f, g, h, rfl⟩
theorem filter_len {α : Type} (q : α → Bool) : ∀ l : List α, (l.filter q).length = ((l.map q).filter id).length
  | [] => rfl
  | a :: l => by
    cases h : q a with
    | true => simp [h, filter_len q l]
    | false => simp [h, filter_len q l]
theorem kinds_ok {ks : List Int} (h8 : ks.length = 8) (hb : ∀ k ∈ ks, 0 ≤ k ∧ k ≤ 2) : KOk (((gatesOf ks).drop 2).foldl (fun a g => a.set g.toNat 1) ks) := by
  refine ⟨by rw [foldl_set_length, h8], fun k hk => ?_, ?_⟩
  · rcases foldl_set_mem _ _ _ _ hk with rfl | h
    · decide
    · exact hb k h
  · rw [filter_len, foldl_set_map]
    have e : gatesOf ks = gatesB (ks.map (· == 2)) := by
      unfold gatesOf gatesB
      refine List.filter_congr fun k _ => ?_
      rw [List.getD_eq_getElem?_getD, List.getD_eq_getElem?_getD, List.getElem?_map]
      cases ks[k.toNat]? <;> rfl
    rw [e]
    obtain ⟨a, b, c, d, e', f, g, h, q⟩ := list8 (l := ks.map (· == 2)) (by rw [List.length_map, h8])
    rw [q]
    exact gates_bits a b c d e' f g h
end Mine
end

section
open PySem PySem.W PySem.Calls PyProof.Rows
namespace Mine
/-- a text by the list of its signs' numbers -/
noncomputable def S (l : List Nat) : Str := ⟨l.toArray⟩
theorem S_len (l : List Nat) : (S l).length = l.length := by simp [S, Str.length]
theorem S_cps (l : List Nat) : (S l).cps.toList = l := by simp [S]
theorem S_inj {a b : List Nat} (h : S a = S b) : a = b := by have := congrArg (fun x => x.cps.toList) h; simpa [S] using this
theorem S_beq (a b : List Nat) : (S a == S b) = (a == b) := by
  by_cases h : a = b
  · subst h; simp
  · rw [beq_eq_false_iff_ne.mpr h, beq_eq_false_iff_ne.mpr fun e => h (S_inj e)]
theorem S_app (a b : List Nat) : S a ++ S b = S (a ++ b) := by
  apply Str.ext'; rw [Str.cps_append]; simp [S]
theorem slice_from {l : List Nat} {p : Nat} (h : p ≤ l.length) : Txt.slice (S l) (some (p : Int)) none = S (l.drop p) := by
  have e : Txt.slice (S l) (some (p : Int)) none = StrLaws.sliceText (S l) (some (p : Int)) none := rfl
  rw [e, StrLaws.sliceText_from (by rw [S_cps]; omega), S_cps]
  rw [show (((l.length : Nat) : Int) - (p : Int)).toNat = l.length - p by omega, Int.toNat_natCast, ← List.length_drop, List.take_length]
  rfl
theorem slice_to {l : List Nat} {p : Nat} (h : p ≤ l.length) : Txt.slice (S l) none (some (p : Int)) = S (l.take p) := by
  have e : Txt.slice (S l) none (some (p : Int)) = StrLaws.sliceText (S l) none (some (p : Int)) := rfl
  rw [e, StrLaws.sliceText_to (by rw [S_cps]; omega), S_cps]
  rw [List.drop_zero, show ((p : Int) - 0).toNat = p by omega]
  rfl
theorem slice_all {l : List Nat} : Txt.slice (S l) none none = S l := by
  have h := slice_from (l := l) (p := 0) (Nat.zero_le _)
  rw [List.drop_zero] at h
  unfold Txt.slice at h ⊢
  rw [StrLaws.sliceIdx_none_lo]
  exact h
theorem slice_toneg {l : List Nat} {q : Nat} (h0 : 0 < q) (h : q ≤ l.length) : Txt.slice (S l) none (some (-(q : Int))) = S (l.take (l.length - q)) := by
  rw [← slice_to (l := l) (p := l.length - q) (by omega)]
  have : Builtin.Str.strSliceIndices none (some (-(q : Int))) 1 (S l).length = Builtin.Str.strSliceIndices none (some ((l.length - q : Nat) : Int)) 1 (S l).length := by
    unfold Builtin.Str.strSliceIndices
    rw [S_len]
    have a : (-(q : Int)) < 0 := by omega
    have b : ¬ (((l.length - q : Nat) : Int) < 0) := by omega
    have c : (-(q : Int)) + (l.length : Int) = ((l.length - q : Nat) : Int) := by omega
    simp only [if_pos a, if_neg b, c]
  unfold Txt.slice
  rw [this]
theorem item_at {l : List Nat} {p : Nat} (h : p < l.length) : Txt.item (S l) (p : Int) = S [l.getD p 0] := by
  unfold Txt.item Txt.charAt
  rw [S_len]
  have : seqIndex? (p : Int) l.length = some p := by
    unfold seqIndex?
    have a : ¬ ((p : Int) < 0) := by omega
    simp [a]; omega
  rw [this]
  simp [S, h]
theorem item_neg {l : List Nat} {q : Nat} (h : q < l.length) : Txt.item (S l) (-(q : Int) - 1) = S [l.getD (l.length - 1 - q) 0] := by
  unfold Txt.item Txt.charAt
  rw [S_len]
  have : seqIndex? (-(q : Int) - 1) l.length = some (l.length - 1 - q) := by
    unfold seqIndex?
    have a : (-(q : Int) - 1) < 0 := by omega
    simp [a]; omega
  rw [this]
  have h' : l.length - 1 - q < l.length := by omega
  simp [S, h']
end Mine
end

section
set_option linter.unusedSectionVars false
namespace Mine
section
variable {α : Type} [BEq α]
/-- how long the common beginning is -/
noncomputable def cp : List α → List α → Nat
  | a :: as, b :: bs => if a == b then cp as bs + 1 else 0
  | _, _ => 0
noncomputable def mn2 (x y : Int) : Int := if y < x then y else x
/-- one cell of the table: distance, result, minimum, row -/
noncomputable def cellS (sub : α → α → Int) (dflt bc : α) (a : List α) (st : Int × Int × Int × List Int) (j : Nat) : Int × Int × Int × List Int :=
  let d' := st.2.2.2.getD j 0
  let r' := mn2 (mn2 st.2.1 d' + 2) (st.1 + sub bc (a.getD j dflt))
  (d', r', if r' < st.2.2.1 then r' else st.2.2.1, st.2.2.2.set j r')
noncomputable def innerAt (sub : α → α → Int) (dflt bc : α) (a : List α) (row : List Int) (b0 : Int) (n : Nat) : Int × Int × Int × List Int :=
  (List.range n).foldl (cellS sub dflt bc a) (b0, b0, 9223372036854775807, row)
noncomputable def outerL (sub : α → α → Int) (dflt : α) (mc : Int) (a : List α) : List α → Nat → List Int → Int → Int
  | [], _, _, res => res
  | bc :: rest, i, row, _ =>
    if (innerAt sub dflt bc a row ((i : Int) * 2) a.length).2.2.1 > mc then mc + 1
    else outerL sub dflt mc a rest (i + 1) (innerAt sub dflt bc a row ((i : Int) * 2) a.length).2.2.2 (innerAt sub dflt bc a row ((i : Int) * 2) a.length).2.1
noncomputable def row0 (n : Nat) : List Int := (List.range n).map fun (j : Nat) => 2 + (j : Int) * 2
/-- the table, a being the shorter one -/
noncomputable def levTab (sub : α → α → Int) (dflt : α) (mc : Int) (a b : List α) : Int :=
  if ((b.length : Int) - (a.length : Int)) * 2 > mc then mc + 1 else outerL sub dflt mc a b 0 (row0 a.length) 0
noncomputable def levCore (sub : α → α → Int) (dflt : α) (mc : Int) (a b : List α) : Int :=
  if a.length = 0 ∨ b.length = 0 then 2 * ((a.length : Int) + (b.length : Int)) else
  if (b.length : Int) < (a.length : Int) then levTab sub dflt mc b a else levTab sub dflt mc a b
/-- cut the common end off -/
noncomputable def cutEnd (a b : List α) : List α := a.take (a.length - cp a.reverse b.reverse)
noncomputable def lev (sub : α → α → Int) (dflt : α) (mc : Int) (a b : List α) : Int :=
  if a == b then 0 else
  levCore sub dflt mc (cutEnd (a.drop (cp a b)) (b.drop (cp a b))) (cutEnd (b.drop (cp a b)) (a.drop (cp a b)))
theorem innerAt_succ (sub : α → α → Int) (dflt bc : α) (a : List α) (row : List Int) (b0 : Int) (n : Nat) : innerAt sub dflt bc a row b0 (n + 1) = cellS sub dflt bc a (innerAt sub dflt bc a row b0 n) n := by
  unfold innerAt; rw [List.range_succ, List.foldl_append]; rfl
theorem innerAt_len (sub : α → α → Int) (dflt bc : α) (a : List α) (row : List Int) (b0 : Int) : ∀ n : Nat, (innerAt sub dflt bc a row b0 n).2.2.2.length = row.length
  | 0 => rfl
  | n + 1 => by rw [innerAt_succ]; unfold cellS; dsimp only; rw [List.length_set]; exact innerAt_len sub dflt bc a row b0 n
theorem cp_le : ∀ (a b : List α), cp a b ≤ a.length ∧ cp a b ≤ b.length
  | [], b => ⟨Nat.zero_le _, by cases b <;> exact Nat.zero_le _⟩
  | a :: as, [] => ⟨Nat.zero_le _, Nat.zero_le _⟩
  | a :: as, b :: bs => by
    unfold cp
    split
    · have := cp_le as bs; simp; omega
    · simp
/-- the scan of a common beginning, from place p on -/
theorem cp_step [LawfulBEq α] {a b : List α} {p : Nat} (dflt : α) (ha : p < a.length) (hb : p < b.length) (h : a.getD p dflt = b.getD p dflt) : cp (a.drop p) (b.drop p) = cp (a.drop (p + 1)) (b.drop (p + 1)) + 1 := by
  rw [List.drop_eq_getElem_cons ha, List.drop_eq_getElem_cons hb]
  have h' : a[p] = b[p] := by simpa [List.getD_eq_getElem?_getD, ha, hb] using h
  show (if (a[p] == b[p]) = true then cp (a.drop (p + 1)) (b.drop (p + 1)) + 1 else 0) = _
  rw [h', if_pos (by simp)]
theorem cp_stop [LawfulBEq α] {a b : List α} {p : Nat} (dflt : α) (h : ¬ (p < a.length ∧ p < b.length ∧ a.getD p dflt = b.getD p dflt)) : cp (a.drop p) (b.drop p) = 0 := by
  by_cases ha : p < a.length
  · by_cases hb : p < b.length
    · rw [List.drop_eq_getElem_cons ha, List.drop_eq_getElem_cons hb]
      have h' : a[p] ≠ b[p] := fun e => h ⟨ha, hb, by simp [List.getD_eq_getElem?_getD, ha, hb, e]⟩
      show (if (a[p] == b[p]) = true then cp (a.drop (p + 1)) (b.drop (p + 1)) + 1 else 0) = _
      rw [if_neg (by simpa using h')]
    · rw [List.drop_eq_nil_of_le (Nat.le_of_not_lt hb)]
      cases a.drop p <;> rfl
  · rw [List.drop_eq_nil_of_le (Nat.le_of_not_lt ha)]; rfl
end
end Mine
end

section
set_option linter.unusedSectionVars false
set_option linter.unusedSimpArgs false
namespace Mine
/-- one row of the table over the row ahead -/
noncomputable def DtRow (c : Nat → Int) (prev : Nat → Int) (b0 : Int) : Nat → Int
  | 0 => b0
  | j + 1 => mn2 (mn2 (DtRow c prev b0 j) (prev (j + 1)) + 2) (prev j + c j)
/-- the table -/
noncomputable def Dt (c : Nat → Nat → Int) : Nat → Nat → Int
  | 0, j => 2 * (j : Int)
  | i + 1, j => if j = 0 then 2 * ((i : Int) + 1) else DtRow (c i) (Dt c i) ((i : Int) * 2) j
theorem Dt_col (c : Nat → Nat → Int) : ∀ i, Dt c i 0 = 2 * (i : Int)
  | 0 => rfl
  | i + 1 => by simp [Dt]
theorem Dt_s (c : Nat → Nat → Int) (i j : Nat) : Dt c (i + 1) (j + 1) = DtRow (c i) (Dt c i) ((i : Int) * 2) (j + 1) := by simp [Dt]
theorem mn2_le1 (x y : Int) : mn2 x y ≤ x := by unfold mn2; split <;> omega
theorem mn2_le2 (x y : Int) : mn2 x y ≤ y := by unfold mn2; split <;> omega
theorem mn2_ge {x y z : Int} (h1 : z ≤ x) (h2 : z ≤ y) : z ≤ mn2 x y := by unfold mn2; split <;> omega
/-- the left neighbour -/
noncomputable def Lf (c : Nat → Nat → Int) (i j : Nat) : Int := if j = 0 then 2 * (i : Int) else Dt c (i + 1) j
theorem Dt_ss (c : Nat → Nat → Int) (i j : Nat) : Dt c (i + 1) (j + 1) = mn2 (mn2 (Lf c i j) (Dt c i (j + 1)) + 2) (Dt c i j + c i j) := by
  rw [Dt_s, DtRow]
  have : DtRow (c i) (Dt c i) ((i : Int) * 2) j = Lf c i j := by
    unfold Lf
    cases j with
    | zero => simp [DtRow]; omega
    | succ j => simp [Dt_s]
  rw [this]

section
variable {α : Type} [BEq α] {sub : α → α → Int} {dflt : α} {a : List α} {c : Nat → Nat → Int}
theorem inner_val {bc : α} {i : Nat} {row : List Int} (hr : row.length = a.length) (h : ∀ j < a.length, row.getD j 0 = Dt c i (j + 1)) (hc : ∀ j < a.length, c i j = sub bc (a.getD j dflt)) :
    ∀ m ≤ a.length, (innerAt sub dflt bc a row ((i : Int) * 2) m).1 = Dt c i m ∧ (innerAt sub dflt bc a row ((i : Int) * 2) m).2.1 = DtRow (c i) (Dt c i) ((i : Int) * 2) m ∧
      (∀ j < m, (innerAt sub dflt bc a row ((i : Int) * 2) m).2.2.1 ≤ Dt c (i + 1) (j + 1)) ∧
      (∀ j < a.length, (innerAt sub dflt bc a row ((i : Int) * 2) m).2.2.2.getD j 0 = if j < m then Dt c (i + 1) (j + 1) else Dt c i (j + 1))
  | 0, _ => by
    refine ⟨?_, rfl, fun j hj => absurd hj (by omega), fun j hj => ?_⟩
    · show (i : Int) * 2 = _
      rw [Dt_col]; omega
    · rw [if_neg (by omega)]; exact h j hj
  | m + 1, hm => by
    obtain ⟨e1, e2, e3, e4⟩ := inner_val hr h hc m (by omega)
    rw [innerAt_succ]
    have hl := innerAt_len sub dflt bc a row ((i : Int) * 2) m
    generalize innerAt sub dflt bc a row ((i : Int) * 2) m = st at *
    have hd : st.2.2.2.getD m 0 = Dt c i (m + 1) := by rw [e4 m (by omega), if_neg (by omega)]
    have hrr : mn2 (mn2 st.2.1 (st.2.2.2.getD m 0) + 2) (st.1 + sub bc (a.getD m dflt)) = DtRow (c i) (Dt c i) ((i : Int) * 2) (m + 1) := by
      rw [hd, e1, e2, ← hc m (by omega)]; rfl
    refine ⟨hd, hrr, fun j hj => ?_, fun j hj => ?_⟩
    · show (if mn2 (mn2 st.2.1 (st.2.2.2.getD m 0) + 2) (st.1 + sub bc (a.getD m dflt)) < st.2.2.1 then _ else _) ≤ _
      rw [hrr, ← Dt_s]
      by_cases hjm : j = m
      · subst hjm; split <;> omega
      · have := e3 j (by omega)
        split <;> omega
    · show (st.2.2.2.set m (mn2 (mn2 st.2.1 (st.2.2.2.getD m 0) + 2) (st.1 + sub bc (a.getD m dflt)))).getD j 0 = _
      rw [hrr, ← Dt_s]
      by_cases hjm : j = m
      · subst hjm
        rw [if_pos (by omega)]
        simp [List.getD_eq_getElem?_getD, List.getElem?_set, hl, hr, hj]
      · have := e4 j hj
        simp only [List.getD_eq_getElem?_getD, List.getElem?_set, if_neg (Ne.symm hjm)] at this ⊢
        rw [this]
        by_cases h1 : j < m
        · rw [if_pos h1, if_pos (by omega)]
        · rw [if_neg h1, if_neg (by omega)]

theorem outer_val {V mc : Int} (hV : V = mc ∨ V = mc + 1) (ha : 0 < a.length) : ∀ (rest : List α) (i : Nat) (row : List Int) (res : Int), row.length = a.length → (∀ j < a.length, row.getD j 0 = Dt c i (j + 1)) →
    (∀ q < rest.length, ∀ j < a.length, c (i + q) j = sub (rest.getD q dflt) (a.getD j dflt)) → (∀ q < rest.length, ∃ j < a.length, Dt c (i + q + 1) (j + 1) ≤ V) →
    Dt c (i + rest.length) a.length = V → (rest = [] → res = V) → outerL sub dflt mc a rest i row res = V
  | [], i, row, res, _, _, _, _, _, hres => hres rfl
  | bc :: rest, i, row, res, hr, h, hc, hm, hv, _ => by
    have hc0 : ∀ j < a.length, c i j = sub bc (a.getD j dflt) := fun j hj => by simpa using hc 0 (by simp) j hj
    obtain ⟨_, e2, e3, e4⟩ := inner_val hr h hc0 a.length (Nat.le_refl _)
    have hl := innerAt_len sub dflt bc a row ((i : Int) * 2) a.length
    rw [outerL]
    split
    · rename_i hgt
      obtain ⟨j, hj, hle⟩ := hm 0 (by simp)
      have := e3 j hj
      rw [Nat.add_zero] at hle
      omega
    · refine outer_val hV ha rest (i + 1) _ _ (hl.trans hr) (fun j hj => ?_) (fun q hq j hj => ?_) (fun q hq => ?_) ?_ ?_
      · rw [e4 j hj, if_pos hj]
      · have := hc (q + 1) (by simp; omega) j hj
        rw [show i + 1 + q = i + (q + 1) by omega, this]; simp
      · obtain ⟨j, hj, hle⟩ := hm (q + 1) (by simp; omega)
        exact ⟨j, hj, by rw [show i + 1 + q + 1 = i + (q + 1) + 1 by omega]; exact hle⟩
      · rw [← hv, List.length_cons]; congr 1; omega
      · intro hn
        subst hn
        rw [e2, ← hv]
        obtain ⟨m, hm'⟩ : ∃ m, a.length = m + 1 := ⟨a.length - 1, by omega⟩
        rw [hm', ← Dt_s]; rfl
end
end Mine
end

section
set_option linter.unusedSectionVars false
set_option linter.unusedSimpArgs false
namespace Mine
theorem Dt_lb {c : Nat → Nat → Int} {nb na : Nat} (φ : Nat → Nat → Int) (h0 : ∀ j ≤ na, φ 0 j ≤ 2 * (j : Int)) (hi : ∀ i ≤ nb, φ i 0 ≤ 2 * (i : Int)) (hcol : ∀ i < nb, φ (i + 1) 1 ≤ 2 * (i : Int) + 2)
    (hs : ∀ i < nb, ∀ j < na, φ (i + 1) (j + 1) ≤ φ i (j + 1) + 2 ∧ φ (i + 1) (j + 1) ≤ φ (i + 1) j + 2 ∧ φ (i + 1) (j + 1) ≤ φ i j + c i j) : ∀ i ≤ nb, ∀ j ≤ na, φ i j ≤ Dt c i j
  | 0, _, j, hj => h0 j hj
  | i + 1, hib, 0, _ => by rw [Dt_col]; exact hi _ hib
  | i + 1, hib, j + 1, hj => by
    rw [Dt_ss]
    obtain ⟨s1, s2, s3⟩ := hs i (by omega) j (by omega)
    have i1 := Dt_lb φ h0 hi hcol hs i (by omega) (j + 1) hj
    have i3 := Dt_lb φ h0 hi hcol hs i (by omega) j (by omega)
    refine mn2_ge ?_ (by omega)
    have : φ (i + 1) (j + 1) - 2 ≤ mn2 (Lf c i j) (Dt c i (j + 1)) := by
      refine mn2_ge ?_ (by omega)
      unfold Lf
      split
      · rename_i e; subst e
        have := hcol i (by omega)
        simp only [Nat.zero_add]; omega
      · have i2 := Dt_lb φ h0 hi hcol hs (i + 1) hib j (by omega)
        omega
    omega
  termination_by i _ j _ => (i, j)
theorem Dt_max {c : Nat → Nat → Int} (hc : ∀ i j, c i j ≤ 2) : ∀ i j, Dt c i j ≤ 2 * (i : Int) ∨ Dt c i j ≤ 2 * (j : Int)
  | 0, j => .inr (Int.le_refl _)
  | i + 1, 0 => by rw [Dt_col]; exact .inl (Int.le_refl _)
  | i + 1, j + 1 => by
    have h1 := mn2_le2 (mn2 (Lf c i j) (Dt c i (j + 1)) + 2) (Dt c i j + c i j)
    rw [← Dt_ss] at h1
    have := hc i j
    rcases Dt_max hc i j with h | h
    · left; omega
    · right; omega
/-- row minima never fall -/
theorem row_next {c : Nat → Nat → Int} (h0 : ∀ i j, 0 ≤ c i j) (h2 : ∀ i j, c i j ≤ 2) {M : Int} {na i : Nat} (hna : 0 < na) (h : ∀ j < na, M ≤ Dt c (i + 1) (j + 1)) : ∀ j < na, M ≤ Dt c (i + 2) (j + 1)
  | 0, _ => by
    rw [Dt_ss]
    have a1 := h 0 hna
    have a2 := Dt_max h2 (i + 1) 1
    have a3 := h0 (i + 1) 0
    have a4 : Dt c (i + 1) 0 = _ := Dt_col c (i + 1)
    refine mn2_ge ?_ (by simp only [Nat.zero_add] at *; omega)
    have : M - 2 ≤ mn2 (Lf c (i + 1) 0) (Dt c (i + 1) (0 + 1)) := mn2_ge (by unfold Lf; simp only [Nat.zero_add, if_true] at *; omega) (by omega)
    omega
  | j + 1, hj => by
    rw [Dt_ss]
    have a0 : M ≤ Dt c (i + 1 + 1) (j + 1) := row_next h0 h2 hna h j (by omega)
    have a1 := h (j + 1) hj
    have a2 := h j (by omega)
    have a3 := h0 (i + 1) (j + 1)
    refine mn2_ge ?_ (by omega)
    have : M - 2 ≤ mn2 (Lf c (i + 1) (j + 1)) (Dt c (i + 1) (j + 1 + 1)) := mn2_ge (by unfold Lf; rw [if_neg (by omega)]; omega) (by omega)
    omega
theorem row_ok {c : Nat → Nat → Int} (h0 : ∀ i j, 0 ≤ c i j) (h2 : ∀ i j, c i j ≤ 2) {V : Int} {na nb : Nat} (hna : 0 < na) (hV : Dt c nb na = V) (i : Nat) (hi : i < nb) : ∃ j < na, Dt c (i + 1) (j + 1) ≤ V := by
  apply Classical.byContradiction
  intro hn
  have all : ∀ j < na, V + 1 ≤ Dt c (i + 1) (j + 1) := fun j hj => by
    apply Classical.byContradiction
    intro h
    exact hn ⟨j, hj, by omega⟩
  have go : ∀ d, ∀ j < na, V + 1 ≤ Dt c (i + d + 1) (j + 1) := fun d => by
    induction d with
    | zero => exact all
    | succ d ih => exact row_next h0 h2 hna ih
  have := go (nb - 1 - i) (na - 1) (by omega)
  rw [show i + (nb - 1 - i) + 1 = nb by omega, show na - 1 + 1 = na by omega, hV] at this
  omega
theorem Dt_diff {c : Nat → Nat → Int} (h0 : ∀ i j, 0 ≤ c i j) (i j : Nat) : 2 * ((i : Int) - j) ≤ Dt c i j :=
  Dt_lb (nb := i) (na := j) (fun i j => 2 * ((i : Int) - j)) (fun j _ => by omega) (fun i _ => by omega) (fun i _ => by omega) (fun i _ j _ => by have := h0 i j; omega) i (Nat.le_refl _) j (Nat.le_refl _)

theorem row0_at (n j : Nat) (c : Nat → Nat → Int) (h : j < n) : (row0 n).getD j 0 = Dt c 0 (j + 1) := by
  simp [row0, List.getD_eq_getElem?_getD, h, Dt]; omega
/-- the table's answer -/
theorem tab_val {α : Type} [BEq α] {sub : α → α → Int} {dflt : α} {a b : List α} {c : Nat → Nat → Int} {mc V : Int} (h0 : ∀ i j, 0 ≤ c i j) (h2 : ∀ i j, c i j ≤ 2) (ha : 0 < a.length) (hb : 0 < b.length)
    (hc : ∀ q < b.length, ∀ j < a.length, c q j = sub (b.getD q dflt) (a.getD j dflt)) (hV : Dt c b.length a.length = V) (hm : V = mc ∨ V = mc + 1) : levTab sub dflt mc a b = V := by
  unfold levTab
  split
  · have := Dt_diff h0 b.length a.length
    omega
  · refine outer_val (c := c) hm ha b 0 _ _ (by simp [row0]) (fun j hj => row0_at _ _ _ hj) (fun q hq j hj => by rw [Nat.zero_add]; exact hc q hq j hj) (fun q hq => by rw [Nat.zero_add]; exact row_ok h0 h2 ha hV q hq) (by rw [Nat.zero_add]; exact hV) (fun e => by subst e; simp at hb)
end Mine
end

section
set_option linter.unusedSectionVars false
set_option linter.unusedSimpArgs false
namespace Mine
/-- a way over the diagonal e -/
noncomputable def FD (e : Nat) (pr : Nat → Int) (i j : Nat) : Int := 2 * (e : Int) + (if j ≤ i + e then 2 * ((i : Int) + e - j) + pr (j - e) else 2 * ((j : Int) - i - e) + pr i)
structure Pre (pr ch : Nat → Int) : Prop where
  z : pr 0 = 0
  s : ∀ g, pr (g + 1) = pr g + ch g
  c0 : ∀ g, 0 ≤ ch g
  c1 : ∀ g, ch g ≤ 1
section
variable {e : Nat} {pr ch : Nat → Int} (H : Pre pr ch)
include H
theorem Pre.nn : ∀ g, 0 ≤ pr g
  | 0 => by rw [H.z]; exact Int.le_refl _
  | g + 1 => by have := Pre.nn g; have := H.c0 g; rw [H.s]; omega
theorem Pre.le : ∀ g, pr g ≤ (g : Int)
  | 0 => by rw [H.z]; exact Int.le_refl _
  | g + 1 => by have := Pre.le g; have := H.c1 g; rw [H.s]; omega
theorem Pre.sub1 (j : Nat) : pr (j - e) ≤ pr (j + 1 - e) ∧ pr (j + 1 - e) ≤ pr (j - e) + 1 ∧ (j + 1 ≤ e → pr (j + 1 - e) = pr (j - e)) := by
  by_cases h : j + 1 ≤ e
  · rw [show j + 1 - e = j - e by omega]; exact ⟨Int.le_refl _, by omega, fun _ => rfl⟩
  · rw [show j + 1 - e = (j - e) + 1 by omega, H.s]
    have := H.c0 (j - e); have := H.c1 (j - e)
    exact ⟨by omega, by omega, fun h' => absurd h' h⟩
theorem FD_i (i j : Nat) : FD e pr (i + 1) j ≤ FD e pr i j + 2 := by
  unfold FD
  have h1 := H.s i; have h2 := H.c0 i; have h3 := H.c1 i
  by_cases h : j ≤ i + e
  · rw [if_pos h, if_pos (by omega)]; omega
  · by_cases h' : j ≤ i + 1 + e
    · rw [if_neg h, if_pos h', show j - e = i + 1 by omega, h1]; omega
    · rw [if_neg h, if_neg h', h1]; omega
theorem FD_j (i j : Nat) : FD e pr i (j + 1) ≤ FD e pr i j + 2 := by
  unfold FD
  obtain ⟨g1, g2, g3⟩ := H.sub1 (e := e) j
  by_cases h : j ≤ i + e
  · by_cases h' : j + 1 ≤ i + e
    · rw [if_pos h, if_pos h']; omega
    · rw [if_pos h, if_neg h', show j - e = i by omega]; omega
  · rw [if_neg h, if_neg (by omega)]; omega
theorem FD_ij (i j : Nat) : FD e pr (i + 1) (j + 1) ≤ FD e pr i j + 1 := by
  unfold FD
  obtain ⟨g1, g2, g3⟩ := H.sub1 (e := e) j
  have h1 := H.s i; have h2 := H.c0 i; have h3 := H.c1 i
  by_cases h : j ≤ i + e
  · rw [if_pos h, if_pos (by omega)]; omega
  · rw [if_neg h, if_neg (by omega), h1]; omega
theorem FD_on (i : Nat) : FD e pr (i + 1) (i + e + 1) ≤ FD e pr i (i + e) + ch i ∧ FD e pr (i + 1) (i + e + 1) ≤ 2 * ((i : Int) + e) + ch i := by
  unfold FD
  have h1 := H.s i; have h2 := H.c0 i; have h3 := H.c1 i; have h4 := H.le i; have h5 := H.nn i
  rw [if_pos (by omega), if_pos (by omega), show i + e + 1 - e = i + 1 by omega, show i + e - e = i by omega, h1]; omega
theorem FD_far (i j k : Nat) (h : j + k = i) : 2 * ((e : Int) + k) ≤ FD e pr i j := by
  unfold FD
  have h5 := H.nn (j - e)
  rw [if_pos (by omega)]; omega
end
/-- what a sign costs against a sign, by place: k ahead, e behind -/
structure CR (k e : Nat) (c : Nat → Nat → Int) (ch : Nat → Int) : Prop where
  a : ∀ i < k, c i (i + e) = ch i
  b : ∀ j < e, c (j + k) j = ch (j + k)
  o : ∀ i j, (∀ (_ : i < k), j ≠ i + e) → (∀ (_ : j < e), i ≠ j + k) → c i j = 2
noncomputable def preS (ch : Nat → Int) : Nat → Int
  | 0 => 0
  | g + 1 => preS ch g + ch g
theorem preS_pre {ch : Nat → Int} (h0 : ∀ g, 0 ≤ ch g) (h1 : ∀ g, ch g ≤ 1) (k : Nat) : Pre (preS fun g => ch (g + k)) fun g => ch (g + k) := ⟨rfl, fun _ => rfl, fun _ => h0 _, fun _ => h1 _⟩
theorem mx_i (i j : Nat) : 2 * max ((i + 1 : Nat) : Int) j ≤ 2 * max (i : Int) j + 2 := by omega
theorem mx_j (i j : Nat) : 2 * max (i : Int) ((j + 1 : Nat) : Int) ≤ 2 * max (i : Int) j + 2 := by omega
theorem mx_ij (i j : Nat) : 2 * max ((i + 1 : Nat) : Int) ((j + 1 : Nat) : Int) ≤ 2 * max (i : Int) j + 2 := by omega
theorem sle {a b d : Int} (h : a ≤ b + d) : a - d ≤ b := by omega
theorem els {a b d : Int} (h : a - d ≤ b) : a ≤ b + d := by omega
theorem mn_3 {a x y z d : Int} (hx : a ≤ x + d) (hy : a ≤ y + d) (hz : a ≤ z + d) : a ≤ min (min x y) z + d := els (Int.le_min.mpr ⟨Int.le_min.mpr ⟨sle hx, sle hy⟩, sle hz⟩)
theorem mn_le {x x' y y' z z' d : Int} (hx : x' ≤ x + d) (hy : y' ≤ y + d) (hz : z' ≤ z + d) : min (min x' y') z' ≤ min (min x y) z + d :=
  mn_3 (Int.le_trans (Int.le_trans (Int.min_le_left _ _) (Int.min_le_left _ _)) hx) (Int.le_trans (Int.le_trans (Int.min_le_left _ _) (Int.min_le_right _ _)) hy) (Int.le_trans (Int.min_le_right _ _) hz)
theorem mn_mid {x x' y y' z z' d : Int} (hx : y' ≤ x + d) (hy : y' ≤ y + d) (hz : y' ≤ z + d) : min (min x' y') z' ≤ min (min x y) z + d :=
  Int.le_trans (Int.le_trans (Int.min_le_left _ _) (Int.min_le_right _ _)) (mn_3 hx hy hz)
theorem mn_last {x x' y y' z z' d : Int} (hx : z' ≤ x + d) (hy : z' ≤ y + d) (hz : z' ≤ z + d) : min (min x' y') z' ≤ min (min x y) z + d :=
  Int.le_trans (Int.min_le_right _ _) (mn_3 hx hy hz)
theorem mx_far (i e : Nat) : 2 * max (i : Int) ((i + e : Nat) : Int) = 2 * ((i : Int) + e) := by omega
theorem mx_far' (i e : Nat) : 2 * max ((i + e : Nat) : Int) (i : Int) = 2 * ((i : Int) + e) := by omega
noncomputable def mn3 (x y z : Int) : Int := if y < x then (if z < y then z else y) else (if z < x then z else x)
theorem lt2 {i k e : Nat} (h : i < k) : 2 * ((i : Int) + e) ≤ 2 * ((k : Int) + e) := by omega
theorem le12 {a b : Int} (h : a ≤ b + 1) : a ≤ b + 2 := by omega
theorem mx_same (k e : Nat) : 2 * max ((k + e : Nat) : Int) ((k + e : Nat) : Int) = 2 * ((k : Int) + e) := by omega
theorem mn3_le (x y z : Int) : mn3 x y z ≤ min (min z y) x := by
  unfold mn3
  split <;> split <;> exact Int.le_min.mpr ⟨Int.le_min.mpr ⟨by omega, by omega⟩, by omega⟩
theorem rot_lb {k e : Nat} {c : Nat → Nat → Int} {ch : Nat → Int} (C : CR k e c ch) (h0 : ∀ g, 0 ≤ ch g) (h1 : ∀ g, ch g ≤ 1) :
    mn3 (4 * (k : Int) + preS (fun g => ch (g + k)) e) (4 * (e : Int) + preS (fun g => ch (g + 0)) k) (2 * ((k : Int) + e)) ≤ Dt c (k + e) (k + e) := by
  have HA := preS_pre h0 h1 0
  have HB := preS_pre h0 h1 k
  have key := Dt_lb (c := c) (nb := k + e) (na := k + e)
    (fun i j => min (min (2 * max (i : Int) j) (FD e (preS fun g => ch (g + 0)) i j)) (FD k (preS fun g => ch (g + k)) j i))
    (fun j _ => Int.le_trans (Int.le_trans (Int.min_le_left _ _) (Int.min_le_left _ _)) (by omega)) (fun i _ => Int.le_trans (Int.le_trans (Int.min_le_left _ _) (Int.min_le_left _ _)) (by omega)) (fun i _ => Int.le_trans (Int.le_trans (Int.min_le_left _ _) (Int.min_le_left _ _)) (by omega))
    (fun i hi j hj => by
      have a1 := FD_i (e := e) HA i (j + 1); have a2 := FD_j (e := e) HA (i + 1) j; have a3 := FD_ij (e := e) HA i j
      have b1 := FD_i (e := k) HB j (i + 1); have b2 := FD_j (e := k) HB (j + 1) i; have b3 := FD_ij (e := k) HB j i
      refine ⟨mn_le (mx_i i (j + 1)) a1 b2, mn_le (mx_j (i + 1) j) a2 b1, ?_⟩
      by_cases ha : i < k ∧ j = i + e
      · obtain ⟨hik, rfl⟩ := ha
        have d1 := FD_on (e := e) HA i
        have d2 := FD_far (e := k) HB (i + e) i e rfl
        rw [C.a i hik]
        exact mn_mid (Int.le_trans d1.2 (Int.le_of_eq (by rw [mx_far]; rfl))) d1.1 (Int.le_trans d1.2 (Int.add_le_add_right (Int.le_trans (lt2 hik) d2) _))
      · by_cases hb : j < e ∧ i = j + k
        · obtain ⟨hje, rfl⟩ := hb
          have d1 := FD_on (e := k) HB j
          have d2 := FD_far (e := e) HA (j + k) j k rfl
          rw [C.b j hje]
          exact mn_last (Int.le_trans d1.2 (Int.le_of_eq (by rw [mx_far']))) (Int.le_trans d1.2 (Int.add_le_add_right (Int.le_trans (lt2 hje) d2) _)) d1.1
        · rw [C.o i j (fun h hh => ha ⟨h, hh⟩) (fun h hh => hb ⟨h, hh⟩)]
          exact mn_le (mx_ij i j) (le12 a3) (le12 b3))
    (k + e) (Nat.le_refl _) (k + e) (Nat.le_refl _)
  refine Int.le_trans ?_ key
  have eA : FD e (preS fun g => ch (g + 0)) (k + e) (k + e) = 4 * (e : Int) + preS (fun g => ch (g + 0)) k := by
    unfold FD; rw [if_pos (by omega), show k + e - e = k by omega]; omega
  have eB : FD k (preS fun g => ch (g + k)) (k + e) (k + e) = 4 * (k : Int) + preS (fun g => ch (g + k)) e := by
    unfold FD; rw [if_pos (by omega), show k + e - k = e by omega]; omega
  simp only [eA, eB]
  rw [mx_same]
  exact mn3_le _ _ _
end Mine
end

section
set_option linter.unusedSectionVars false
set_option linter.unusedSimpArgs false
namespace Mine
theorem Dt_up (c : Nat → Nat → Int) (i j : Nat) : Dt c (i + 1) (j + 1) ≤ Dt c i (j + 1) + 2 := by
  rw [Dt_ss]
  have h1 := mn2_le1 (mn2 (Lf c i j) (Dt c i (j + 1)) + 2) (Dt c i j + c i j)
  have h2 := mn2_le2 (Lf c i j) (Dt c i (j + 1))
  omega
theorem Dt_left (c : Nat → Nat → Int) (i j : Nat) : Dt c (i + 1) (j + 1) ≤ Dt c (i + 1) j + 2 := by
  have h1 := mn2_le1 (mn2 (Lf c i j) (Dt c i (j + 1)) + 2) (Dt c i j + c i j)
  have h2 := mn2_le1 (Lf c i j) (Dt c i (j + 1))
  rw [← Dt_ss] at h1
  have h3 : Lf c i j ≤ Dt c (i + 1) j := by
    unfold Lf
    split
    · rename_i e; subst e; rw [Dt_col]; omega
    · exact Int.le_refl _
  omega
theorem Dt_diag (c : Nat → Nat → Int) (i j : Nat) : Dt c (i + 1) (j + 1) ≤ Dt c i j + c i j := by
  rw [Dt_ss]; exact mn2_le2 _ _
theorem Dt_ups (c : Nat → Nat → Int) (i j : Nat) : ∀ q, Dt c (i + q) j ≤ Dt c i j + 2 * (q : Int)
  | 0 => by simp
  | q + 1 => by
    have ih := Dt_ups c i j q
    cases j with
    | zero => rw [Dt_col, Dt_col]; omega
    | succ j => have := Dt_up c (i + q) j; rw [show i + (q + 1) = i + q + 1 by omega]; omega
theorem Dt_lefts (c : Nat → Nat → Int) (i j : Nat) : ∀ q, Dt c i (j + q) ≤ Dt c i j + 2 * (q : Int)
  | 0 => by simp
  | q + 1 => by
    have ih := Dt_lefts c i j q
    cases i with
    | zero => simp only [Dt]; omega
    | succ i => have := Dt_left c i (j + q); rw [show j + (q + 1) = j + q + 1 by omega]; omega
theorem rot_ub {k e : Nat} {c : Nat → Nat → Int} {ch : Nat → Int} (C : CR k e c ch) (h2 : ∀ i j, c i j ≤ 2) :
    Dt c (k + e) (k + e) ≤ mn3 (4 * (k : Int) + preS (fun g => ch (g + k)) e) (4 * (e : Int) + preS (fun g => ch (g + 0)) k) (2 * ((k : Int) + e)) := by
  have u0 := Dt_max h2 (k + e) (k + e)
  have ua : ∀ g ≤ k, Dt c g (g + e) ≤ 2 * (e : Int) + preS (fun g => ch (g + 0)) g := fun g => by
    induction g with
    | zero => intro _; simp [Dt, preS]
    | succ g ih =>
      intro hg
      have := ih (by omega)
      have d := Dt_diag c g (g + e)
      rw [C.a g (by omega)] at d
      rw [show g + 1 + e = g + e + 1 by omega, preS]; simp only [Nat.add_zero] at *; omega
  have ub : ∀ g ≤ e, Dt c (g + k) g ≤ 2 * (k : Int) + preS (fun g => ch (g + k)) g := fun g => by
    induction g with
    | zero => intro _; rw [Dt_col, preS]; omega
    | succ g ih =>
      intro hg
      have := ih (by omega)
      have d := Dt_diag c (g + k) g
      rw [C.b g (by omega)] at d
      rw [show g + 1 + k = g + k + 1 by omega, preS]; omega
  have va := ua k (Nat.le_refl _)
  have vb := ub e (Nat.le_refl _)
  have wa := Dt_ups c k (k + e) e
  have wb := Dt_lefts c (k + e) e k
  rw [show e + k = k + e by omega] at wb vb
  unfold mn3
  split <;> split <;> omega
theorem rot_eq {k e : Nat} {c : Nat → Nat → Int} {ch : Nat → Int} (C : CR k e c ch) (h0 : ∀ g, 0 ≤ ch g) (h1 : ∀ g, ch g ≤ 1) (h2 : ∀ i j, c i j ≤ 2) :
    Dt c (k + e) (k + e) = mn3 (4 * (k : Int) + preS (fun g => ch (g + k)) e) (4 * (e : Int) + preS (fun g => ch (g + 0)) k) (2 * ((k : Int) + e)) :=
  Int.le_antisymm (rot_ub C h2) (rot_lb C h0 h1)
theorem two_eq {c : Nat → Nat → Int} (hc : ∀ i j, c i j = 2) (i j : Nat) : Dt c i j = 2 * max (i : Int) j := by
  have u := Dt_max (c := c) (fun i j => by rw [hc]; exact Int.le_refl _) i j
  have l := Dt_lb (c := c) (nb := i) (na := j) (fun i j => 2 * max (i : Int) j) (fun j _ => by omega) (fun i _ => by omega) (fun i _ => by omega) (fun i _ j _ => by rw [hc]; exact ⟨mx_i i (j + 1), mx_j (i + 1) j, mx_ij i j⟩) i (Nat.le_refl _) j (Nat.le_refl _)
  omega
end Mine
end

section
set_option linter.unusedSectionVars false
set_option linter.unusedSimpArgs false
namespace Mine
theorem preS_congr {f g : Nat → Int} : ∀ {m : Nat}, (∀ q < m, f q = g q) → preS f m = preS g m
  | 0, _ => rfl
  | m + 1, h => by rw [preS, preS, preS_congr fun q hq => h q (by omega), h m (by omega)]
theorem preS_shift (f : Nat → Int) : ∀ m, preS f (m + 1) = f 0 + preS (fun g => f (g + 1)) m
  | 0 => by simp [preS]
  | m + 1 => by rw [preS, preS_shift f m, preS]; omega
theorem preS_list : ∀ l : List Int, preS (fun g => l.getD g 0) l.length = l.sum
  | [] => rfl
  | a :: l => by rw [List.length_cons, preS_shift, List.sum_cons, ← preS_list l]; simp
section
variable {ι : Type} {sub : Nat → Nat → Int} {r s : ι → Nat} {ch : ι → Int} {dflt : Nat}
/-- two lists of places, the signs of the one by r, of the other by s -/
structure Sg (sub : Nat → Nat → Int) (r s : ι → Nat) (ch : ι → Int) (W : List ι) : Prop where
  eq : ∀ i ∈ W, sub (r i) (s i) = ch i
  ne : ∀ i ∈ W, ∀ j ∈ W, i ≠ j → sub (r i) (s j) = 2
  e0 : ∀ i ∈ W, r i = s i → ch i = 0
  e1 : ∀ i ∈ W, ∀ j ∈ W, i ≠ j → r i ≠ s j
  c0 : ∀ i, 0 ≤ ch i
  c1 : ∀ i, ch i ≤ 1
theorem getD_bd {l : List ι} (h0 : ∀ i, 0 ≤ ch i) (h1 : ∀ i, ch i ≤ 1) (g : Nat) : 0 ≤ (l.map ch).getD g 0 ∧ (l.map ch).getD g 0 ≤ 1 := by
  rw [List.getD_eq_getElem?_getD, List.getElem?_map]
  cases l[g]? with
  | none => simp
  | some i => exact ⟨h0 i, h1 i⟩
theorem getD_map' {α β : Type} {l : List α} (f : α → β) (d : β) {q : Nat} (h : q < l.length) : (l.map f).getD q d = f l[q] := by
  rw [List.getD_eq_getElem?_getD, List.getElem?_map, List.getElem?_eq_getElem h]; rfl
theorem nd_inj {α : Type} {l : List α} (nd : l.Nodup) {i j : Nat} {hi : i < l.length} {hj : j < l.length} : l[i] = l[j] ↔ i = j := by
  have P := List.pairwise_iff_getElem.mp nd
  constructor
  · intro e
    apply Classical.byContradiction
    intro n
    rcases Nat.lt_or_gt_of_ne n with h | h
    · exact P i j hi hj h e
    · exact P j i hj hi h e.symm
  · intro e; subst e; rfl
/-- the table over a rotation -/
theorem tab_rot {U V : List ι} {mc : Int} (H : Sg sub r s ch (U ++ V)) (nd : (U ++ V).Nodup) (hne : 0 < U.length + V.length)
    (hm : mn3 (4 * (U.length : Int) + (V.map ch).sum) (4 * (V.length : Int) + (U.map ch).sum) (2 * ((U.length : Int) + V.length)) = mc ∨ mn3 (4 * (U.length : Int) + (V.map ch).sum) (4 * (V.length : Int) + (U.map ch).sum) (2 * ((U.length : Int) + V.length)) = mc + 1) :
    levTab sub dflt mc ((V ++ U).map s) ((U ++ V).map r) = mn3 (4 * (U.length : Int) + (V.map ch).sum) (4 * (V.length : Int) + (U.map ch).sum) (2 * ((U.length : Int) + V.length)) := by
  classical
  let c : Nat → Nat → Int := fun i j => if (i < U.length ∧ j = i + V.length) ∨ (j < V.length ∧ i = j + U.length) then ((U ++ V).map ch).getD i 0 else 2
  have C : CR U.length V.length c fun i => ((U ++ V).map ch).getD i 0 :=
    ⟨fun i hi => if_pos (.inl ⟨hi, rfl⟩), fun j hj => if_pos (.inr ⟨hj, rfl⟩), fun i j h1 h2 => if_neg fun h => by rcases h with ⟨a, b⟩ | ⟨a, b⟩; exact h1 a b; exact h2 a b⟩
  have hb := fun g => getD_bd (l := U ++ V) H.c0 H.c1 g
  have c0 : ∀ i j, 0 ≤ c i j := fun i j => by dsimp only [c]; split; exact (hb i).1; omega
  have c2 : ∀ i j, c i j ≤ 2 := fun i j => by dsimp only [c]; split; have := (hb i).2; omega; omega
  have hV := rot_eq C (fun g => (hb g).1) (fun g => (hb g).2) c2
  have e1 : preS (fun g => ((U ++ V).map ch).getD (g + U.length) 0) V.length = (V.map ch).sum := by
    rw [← preS_list (V.map ch), List.length_map]
    exact preS_congr fun q hq => by simp [List.getD_eq_getElem?_getD, List.getElem?_append_right]
  have e2 : preS (fun g => ((U ++ V).map ch).getD (g + 0) 0) U.length = (U.map ch).sum := by
    rw [← preS_list (U.map ch), List.length_map]
    exact preS_congr fun q hq => by simp [List.getD_eq_getElem?_getD, List.getElem?_append_left, hq]
  rw [e1, e2] at hV
  refine tab_val (c := c) c0 c2 (by simp; omega) (by simp; omega) (fun q hq j hj => ?_) ?_ hm
  · rw [List.length_map] at hq hj
    have hq' : q < (U ++ V).length := hq
    have hj' : j < (V ++ U).length := hj
    have mq : (U ++ V)[q] ∈ U ++ V := List.getElem_mem hq'
    have mj : (V ++ U)[j] ∈ U ++ V := by
      have := List.getElem_mem hj'
      simp only [List.mem_append] at this ⊢; exact this.symm
    have g1 : ((U ++ V).map r).getD q dflt = r (U ++ V)[q] := getD_map' _ _ hq'
    have g2 : ((V ++ U).map s).getD j dflt = s (V ++ U)[j] := getD_map' _ _ hj'
    rw [g1, g2]
    have hchq : ((U ++ V).map ch).getD q 0 = ch (U ++ V)[q] := getD_map' _ _ hq'
    rw [List.length_append] at hq' hj'
    have iff : (U ++ V)[q] = (V ++ U)[j] ↔ ((q < U.length ∧ j = q + V.length) ∨ (j < V.length ∧ q = j + U.length)) := by
      by_cases hjv : j < V.length
      · have : (V ++ U)[j] = (U ++ V)[j + U.length]'(by rw [List.length_append]; omega) := by
          rw [List.getElem_append_left hjv, List.getElem_append_right (by omega)]; simp
        rw [this, nd_inj nd]
        constructor
        · intro h; exact .inr ⟨hjv, h⟩
        · rintro (⟨h, h'⟩ | ⟨h, h'⟩) <;> omega
      · have : (V ++ U)[j] = (U ++ V)[j - V.length]'(by rw [List.length_append]; omega) := by
          rw [List.getElem_append_right (by omega), List.getElem_append_left (by omega)]
        rw [this, nd_inj nd]
        constructor
        · intro h; exact .inl ⟨by omega, by omega⟩
        · rintro (⟨h, h'⟩ | ⟨h, h'⟩) <;> omega
    dsimp only [c]
    by_cases h : (U ++ V)[q] = (V ++ U)[j]
    · rw [if_pos (iff.mp h), hchq, ← h, H.eq _ mq]
    · rw [if_neg (fun h' => h (iff.mpr h')), H.ne _ mq _ mj h]
  · rw [List.length_map, List.length_map, List.length_append, List.length_append, Nat.add_comm V.length, hV]
end
end Mine
end

section
set_option linter.unusedSectionVars false
set_option linter.unusedSimpArgs false
namespace Mine
theorem cp_commN {α : Type} [BEq α] [LawfulBEq α] : ∀ (a b : List α), cp a b = cp b a
  | [], [] => rfl
  | [], _ :: _ => rfl
  | _ :: _, [] => rfl
  | a :: as, b :: bs => by
    show (if (a == b) = true then cp as bs + 1 else 0) = if (b == a) = true then cp bs as + 1 else 0
    rw [cp_commN as bs]
    by_cases h : a = b
    · subst h; rfl
    · rw [if_neg (by simpa using h), if_neg (by simpa using Ne.symm h)]
theorem cp_ne {α : Type} [BEq α] [LawfulBEq α] {a b : List α} (h : ∀ x ∈ a, ∀ y ∈ b, x ≠ y) : cp a b = 0 := by
  cases a with
  | nil => cases b <;> rfl
  | cons x a => cases b with
    | nil => rfl
    | cons y b =>
      have := h x (.head _) y (.head _)
      show (if (x == y) = true then _ else 0) = 0
      rw [if_neg (by simpa using this)]
theorem cp_head {α : Type} [BEq α] [LawfulBEq α] {a b : List α} (h : ∀ x y, a.head? = some x → b.head? = some y → x ≠ y) : cp a b = 0 := by
  cases a with
  | nil => cases b <;> rfl
  | cons x a => cases b with
    | nil => rfl
    | cons y b =>
      have := h x y rfl rfl
      show (if (x == y) = true then _ else 0) = 0
      rw [if_neg (by simpa using this)]
/-- what is not trimmed -/
theorem lev_core {sub : Nat → Nat → Int} {dflt : Nat} {mc : Int} {x y : List Nat} (hne : x ≠ y) (h1 : cp x y = 0) (h2 : cp x.reverse y.reverse = 0) : lev sub dflt mc x y = levCore sub dflt mc x y := by
  unfold lev
  rw [if_neg (by simpa using hne), h1, List.drop_zero, List.drop_zero]
  unfold cutEnd
  rw [cp_commN y.reverse, h2, Nat.sub_zero, Nat.sub_zero, List.take_length, List.take_length]
/-- two texts without a common sign -/
theorem lev_apart {sub : Nat → Nat → Int} {dflt : Nat} {mc V : Int} {x y : List Nat} (h : ∀ a ∈ x, ∀ b ∈ y, a ≠ b ∧ sub a b = 2 ∧ sub b a = 2)
    (hV : V = 2 * (if (y.length : Int) > (x.length : Int) then (y.length : Int) else (x.length : Int))) (hm : V = mc ∨ V = mc + 1) : lev sub dflt mc x y = V := by
  by_cases hx : x = []
  · subst hx
    by_cases hy : y = []
    · subst hy; rw [hV]; simp [lev]
    · have hl : 0 < y.length := List.length_pos_iff.mpr hy
      rw [lev_core (Ne.symm hy) (cp_ne (by simp)) (cp_ne (by simp))]
      unfold levCore
      rw [if_pos (.inl rfl), hV, if_pos (by simp; omega)]; simp
  · have hlx : 0 < x.length := List.length_pos_iff.mpr hx
    by_cases hy : y = []
    · subst hy
      rw [lev_core hx (cp_ne (by simp)) (cp_ne (by simp))]
      unfold levCore
      rw [if_pos (.inr rfl), hV, if_neg (by simp)]; simp
    · have hly : 0 < y.length := List.length_pos_iff.mpr hy
      have hne : x ≠ y := fun e => by
        subst e
        obtain ⟨a, r, rfl⟩ := List.exists_cons_of_ne_nil hx
        exact (h a (.head _) a (.head _)).1 rfl
      rw [lev_core hne (cp_ne fun a ha b hb => (h a ha b hb).1) (cp_ne fun a ha b hb => (h a (List.mem_reverse.mp ha) b (List.mem_reverse.mp hb)).1)]
      unfold levCore
      rw [if_neg (by omega)]
      have two : ∀ i j, (fun (_ _ : Nat) => (2 : Int)) i j = 2 := fun _ _ => rfl
      have at' : ∀ (l : List Nat) (q : Nat), q < l.length → l.getD q dflt ∈ l := fun l q hq => by
        rw [List.getD_eq_getElem?_getD, List.getElem?_eq_getElem hq]; exact List.getElem_mem hq
      split
      · rename_i hlt
        refine tab_val (c := fun _ _ => 2) (fun _ _ => by decide) (fun _ _ => Int.le_refl _) hly hlx (fun q hq j hj => ?_) ?_ hm
        · exact ((h _ (at' x q hq) _ (at' y j hj)).2.1).symm
        · rw [two_eq two, hV, if_neg (by omega)]; omega
      · rename_i hge
        refine tab_val (c := fun _ _ => 2) (fun _ _ => by decide) (fun _ _ => Int.le_refl _) hlx hly (fun q hq j hj => ?_) ?_ hm
        · exact ((h _ (at' x j hj) _ (at' y q hq)).2.2).symm
        · rw [two_eq two, hV]; split <;> omega
section
variable {ι : Type} {sub : Nat → Nat → Int} {r s : ι → Nat} {ch : ι → Int} {dflt : Nat}
theorem Sg.of_sub {W W' : List ι} (H : Sg sub r s ch W) (h : ∀ i ∈ W', i ∈ W) : Sg sub r s ch W' :=
  ⟨fun i hi => H.eq i (h i hi), fun i hi j hj => H.ne i (h i hi) j (h j hj), fun i hi => H.e0 i (h i hi), fun i hi j hj => H.e1 i (h i hi) j (h j hj), H.c0, H.c1⟩
theorem Sg.symm {W : List ι} (sym : ∀ a b, sub a b = sub b a) (H : Sg sub r s ch W) : Sg sub s r ch W :=
  ⟨fun i hi => by rw [sym]; exact H.eq i hi, fun i hi j hj n => by rw [sym]; exact H.ne j hj i hi (Ne.symm n), fun i hi e => H.e0 i hi e.symm, fun i hi j hj n e => H.e1 j hj i hi (Ne.symm n) e.symm, H.c0, H.c1⟩
theorem sum_bd (h0 : ∀ i, 0 ≤ ch i) (h1 : ∀ i, ch i ≤ 1) : ∀ l : List ι, 0 ≤ (l.map ch).sum ∧ (l.map ch).sum ≤ (l.length : Int)
  | [] => by simp
  | a :: l => by
    have := sum_bd h0 h1 l; have := h0 a; have := h1 a
    rw [List.map_cons, List.sum_cons, List.length_cons]; omega
theorem cp_sum : ∀ W : List ι, (∀ i ∈ W, r i = s i → ch i = 0) → ((W.take (cp (W.map r) (W.map s))).map ch).sum = 0
  | [], _ => rfl
  | a :: W, h => by
    show (((a :: W).take (if (r a == s a) = true then cp (W.map r) (W.map s) + 1 else 0)).map ch).sum = 0
    split
    · rename_i e
      rw [List.take_succ_cons, List.map_cons, List.sum_cons, cp_sum W (fun i hi => h i (.tail _ hi)), h a (.head _) (by simpa using e)]; rfl
    · rfl
theorem sum_split (W : List ι) (p : Nat) : (W.map ch).sum = ((W.take p).map ch).sum + ((W.drop p).map ch).sum := by
  rw [← List.sum_append, ← List.map_append, List.take_append_drop]
theorem sum_rev : ∀ W : List ι, (W.reverse.map ch).sum = (W.map ch).sum
  | [] => rfl
  | a :: W => by rw [List.reverse_cons, List.map_append, List.sum_append, sum_rev W, List.map_cons, List.sum_cons]; simp; omega
theorem lev_one {W : List ι} {mc : Int} (H : Sg sub r s ch W) (nd : W.Nodup) (hm : (W.map ch).sum = mc ∨ (W.map ch).sum = mc + 1) : lev sub dflt mc (W.map s) (W.map r) = (W.map ch).sum := by
  have hb := sum_bd H.c0 H.c1 (ch := ch)
  unfold lev
  split
  · rename_i e
    have e' : W.map s = W.map r := by simpa using e
    have hz : ∀ i ∈ W, ch i = 0 := fun i hi => H.e0 i hi (List.map_inj_left.mp e' i hi).symm
    symm
    have : ∀ l : List ι, (∀ i ∈ l, ch i = 0) → (l.map ch).sum = 0 := fun l => by
      induction l with
      | nil => intro _; rfl
      | cons a l ih => intro h; rw [List.map_cons, List.sum_cons, h a (.head _), ih fun i hi => h i (.tail _ hi)]; rfl
    exact this W hz
  · rw [cp_commN (W.map s)]
    have hp := cp_sum (r := r) (s := s) (ch := ch) W H.e0
    generalize hpe : cp (W.map r) (W.map s) = p at *
    have hs1 := sum_split (ch := ch) W p
    rw [hp, Int.zero_add] at hs1
    rw [← List.map_drop, ← List.map_drop]
    generalize hWe : W.drop p = W1 at *
    have H1 : Sg sub r s ch W1 := H.of_sub fun i hi => by rw [← hWe] at hi; exact List.mem_of_mem_drop hi
    have n1 : W1.Nodup := by rw [← hWe]; exact nd.sublist (List.drop_sublist _ _)
    unfold cutEnd
    rw [cp_commN (W1.map s).reverse, ← List.map_reverse, ← List.map_reverse]
    have hq := cp_sum (r := r) (s := s) (ch := ch) W1.reverse (fun i hi => H1.e0 i (List.mem_reverse.mp hi))
    have hql := (cp_le (W1.reverse.map r) (W1.reverse.map s)).1
    rw [List.length_map, List.length_reverse] at hql
    generalize cp (W1.reverse.map r) (W1.reverse.map s) = q at *
    rw [List.take_reverse, sum_rev] at hq
    have hs2 := sum_split (ch := ch) W1 (W1.length - q)
    rw [hq, Int.add_zero] at hs2
    rw [List.length_map, List.length_map, ← List.map_take, ← List.map_take]
    have H2 : Sg sub r s ch (W1.take (W1.length - q)) := H1.of_sub fun i hi => List.mem_of_mem_take hi
    have n2 : (W1.take (W1.length - q)).Nodup := n1.sublist (List.take_sublist _ _)
    generalize W1.take (W1.length - q) = W2 at *
    rw [hs1, hs2] at hm ⊢
    unfold levCore
    rw [List.length_map, List.length_map]
    by_cases h0 : W2.length = 0
    · rw [if_pos (.inl h0), List.eq_nil_of_length_eq_zero h0]; rfl
    · rw [if_neg (by omega), if_neg (by omega)]
      have hb2 := hb W2
      have hmn : mn3 (4 * ((([] : List ι).length : Nat) : Int) + (W2.map ch).sum) (4 * (W2.length : Int) + (([] : List ι).map ch).sum) (2 * (((([] : List ι).length : Nat) : Int) + W2.length)) = (W2.map ch).sum := by
        unfold mn3
        simp only [List.length_nil, List.map_nil, List.sum_nil]
        split <;> split <;> omega
      have := tab_rot (sub := sub) (r := r) (s := s) (ch := ch) (dflt := dflt) (U := []) (V := W2) (mc := mc) H2 n2 (by simp; omega) (by rw [hmn]; exact hm)
      rw [hmn, List.append_nil, List.nil_append] at this
      exact this
/-- the distance of a rotation -/
theorem lev_rot {U V : List ι} {mc : Int} (H : Sg sub r s ch (U ++ V)) (nd : (U ++ V).Nodup) (hU : U ≠ []) (hV : V ≠ [])
    (hm : mn3 (4 * (U.length : Int) + (V.map ch).sum) (4 * (V.length : Int) + (U.map ch).sum) (2 * ((U.length : Int) + V.length)) = mc ∨ mn3 (4 * (U.length : Int) + (V.map ch).sum) (4 * (V.length : Int) + (U.map ch).sum) (2 * ((U.length : Int) + V.length)) = mc + 1) :
    lev sub dflt mc ((V ++ U).map s) ((U ++ V).map r) = mn3 (4 * (U.length : Int) + (V.map ch).sum) (4 * (V.length : Int) + (U.map ch).sum) (2 * ((U.length : Int) + V.length)) := by
  have hlU : 0 < U.length := List.length_pos_iff.mpr hU
  have hlV : 0 < V.length := List.length_pos_iff.mpr hV
  have dj : ∀ u ∈ U, ∀ v ∈ V, u ≠ v := (List.nodup_append.mp nd).2.2
  have c1 : cp ((V ++ U).map s) ((U ++ V).map r) = 0 := cp_head fun x y hx hy => by
    obtain ⟨v, V', rfl⟩ := List.exists_cons_of_ne_nil hV
    obtain ⟨u, U', rfl⟩ := List.exists_cons_of_ne_nil hU
    simp at hx hy
    subst hx; subst hy
    exact fun e => H.e1 u (by simp) v (by simp) (dj u (by simp) v (by simp)) e.symm
  have c2 : cp ((V ++ U).map s).reverse ((U ++ V).map r).reverse = 0 := cp_head fun x y hx hy => by
    rw [List.head?_reverse, List.getLast?_map, List.getLast?_append, List.getLast?_eq_some_getLast hU, Option.some_or] at hx
    rw [List.head?_reverse, List.getLast?_map, List.getLast?_append, List.getLast?_eq_some_getLast hV, Option.some_or] at hy
    simp at hx hy
    subst hx; subst hy
    have mu : U.getLast hU ∈ U := List.getLast_mem hU
    have mv : V.getLast hV ∈ V := List.getLast_mem hV
    exact fun e => H.e1 _ (List.mem_append_right _ mv) _ (List.mem_append_left _ mu) (Ne.symm (dj _ mu _ mv)) e.symm
  have hne : (V ++ U).map s ≠ (U ++ V).map r := fun e => by
    obtain ⟨v, V', rfl⟩ := List.exists_cons_of_ne_nil hV
    obtain ⟨u, U', rfl⟩ := List.exists_cons_of_ne_nil hU
    simp at e
    exact H.e1 u (by simp) v (by simp) (dj u (by simp) v (by simp)) e.1.symm
  rw [lev_core hne c1 c2]
  unfold levCore
  simp only [List.length_map, List.length_append]
  rw [if_neg (by omega), if_neg (by omega)]
  exact tab_rot H nd (by omega) hm
end
end Mine
end

section
open PySem PySem.W PySem.Calls PyProof.Rows PySem.StrLaws
open Builtin Builtin.Str
namespace Mine
section
variable {α : Type}
/-- cut a row at the gates; cur is the piece at hand -/
noncomputable def splitW (g : α → Bool) (cur : List α) : List α → List (List α)
  | [] => [cur]
  | a :: r => if g a = true then cur :: splitW g [] r else splitW g (cur ++ [a]) r
/-- the places of the gates, from i on -/
noncomputable def posF (g : α → Bool) (i : Nat) : List α → List Nat
  | [] => []
  | a :: r => if g a = true then i :: posF g (i + 1) r else posF g (i + 1) r
theorem splitW_len (g : α → Bool) : ∀ (r cur : List α), (splitW g cur r).length = (r.filter g).length + 1
  | [], _ => rfl
  | a :: r, cur => by
    rw [splitW]
    by_cases h : g a = true
    · rw [if_pos h, List.filter_cons_of_pos h, List.length_cons, splitW_len g r, List.length_cons]
    · rw [if_neg h, List.filter_cons_of_neg h, splitW_len g r]
theorem splitW_mem (g : α → Bool) : ∀ (r cur : List α) (q : List α), q ∈ splitW g cur r → q.length ≤ cur.length + r.length ∧ ∀ x ∈ q, x ∈ cur ∨ x ∈ r
  | [], cur, q, h => by
    rw [splitW, List.mem_singleton] at h
    subst h; exact ⟨by simp, fun x hx => .inl hx⟩
  | a :: r, cur, q, h => by
    rw [splitW] at h
    split at h
    · rcases List.mem_cons.mp h with rfl | h
      · exact ⟨by simp, fun x hx => .inl hx⟩
      · obtain ⟨h1, h2⟩ := splitW_mem g r [] q h
        refine ⟨by simp at h1 ⊢; omega, fun x hx => ?_⟩
        rcases h2 x hx with h | h
        · cases h
        · exact .inr (.tail _ h)
    · obtain ⟨h1, h2⟩ := splitW_mem g r (cur ++ [a]) q h
      refine ⟨by simp at h1 ⊢; omega, fun x hx => ?_⟩
      rcases h2 x hx with h | h
      · rcases List.mem_append.mp h with h | h
        · exact .inl h
        · rw [List.mem_singleton.mp h]; exact .inr (.head _)
      · exact .inr (.tail _ h)
end
/-- partsBetween, by a start -/
noncomputable def partsAux (l : List Nat) (st : Nat) : List Nat → List (List Nat)
  | [] => [(l.drop st)]
  | c :: cs => ((l.take c).drop st) :: partsAux l (c + 1) cs
theorem extract_S (l : List Nat) (i j : Nat) : strSub (S l) i j = S ((l.take j).drop i) := by
  unfold strSub S
  apply congrArg
  apply Array.toList_inj.mp
  simp [List.drop_take]
theorem parts_aux (l : List Nat) : ∀ (cuts : List Nat) (st : Nat), (((st :: cuts.map (· + 1)).zip (cuts ++ [(S l).length])).map fun (i, j) => strSub (S l) i j) = (partsAux l st cuts).map S
  | [], st => by
    simp [partsAux, extract_S, S_len]
  | c :: cs, st => by
    have ih := parts_aux l cs (c + 1)
    rw [List.map_cons, List.cons_append, List.zip_cons_cons, List.map_cons, ih, partsAux, List.map_cons]
    dsimp only
    rw [extract_S]
theorem parts_split {α : Type} (g : α → Bool) (f : α → Nat) : ∀ (r cur : List α) (pre : List Nat),
    partsAux (pre ++ (cur ++ r).map f) pre.length (posF g (pre.length + cur.length) r) = (splitW g cur r).map (·.map f)
  | [], cur, pre => by simp [partsAux, posF, splitW]
  | a :: r, cur, pre => by
    rw [posF, splitW]
    by_cases h : g a = true
    · rw [if_pos h, if_pos h, partsAux, List.map_cons]
      have ih := parts_split g f r [] (pre ++ cur.map f ++ [f a])
      have e1 : (pre ++ cur.map f ++ [f a]).length = pre.length + cur.length + 1 := by simp; omega
      rw [e1] at ih
      have e2 : pre ++ (cur ++ a :: r).map f = pre ++ cur.map f ++ [f a] ++ ([] ++ r).map f := by simp
      rw [e2]
      simp only [List.length_nil, Nat.add_zero] at ih
      rw [ih]
      congr 1
      have e3 : pre ++ cur.map f ++ [f a] ++ ([] ++ r).map f = (pre ++ cur.map f) ++ (f a :: r.map f) := by simp
      rw [e3, List.take_append_of_le_length (by simp), List.take_of_length_le (by simp)]
      simp
    · rw [if_neg h, if_neg h]
      have ih := parts_split g f r (cur ++ [a]) pre
      have e : (cur ++ [a]) ++ r = cur ++ a :: r := by simp
      rw [e, List.length_append, List.length_singleton, ← Nat.add_assoc] at ih
      exact ih
/-- the occurrences of one sign -/
theorem occ_from (l : List Nat) (c limit : Nat) : ∀ (r : List Nat) (i : Nat) (found : Array Nat) (free : Nat), l.drop i = r → free ≤ i → found.size + (r.filter (· == c)).length ≤ limit →
    (forIn (List.range' i (r.length + 1)) (found, free) (occBody (S l) (S [c]) (S l).length limit)).run.fst = found ++ (posF (· == c) i r).toArray
  | [], i, found, free, hr, hf, hl => by
    have hlen : l.length ≤ i := List.drop_eq_nil_iff.mp hr
    show (forIn [i] (found, free) (occBody (S l) (S [c]) (S l).length limit)).run.fst = _
    rw [List.forIn_cons]
    unfold occBody
    rw [if_neg (fun h => by have := h.1.2; rw [S_len, S_len] at this; simp at this; omega)]
    simp [posF]
  | a :: r, i, found, free, hr, hf, hl => by
    have hlt : i < l.length := by
      apply Classical.byContradiction
      intro h
      rw [List.drop_eq_nil_of_le (by omega)] at hr; cases hr
    have hr1 : l.drop (i + 1) = r := by rw [← List.drop_drop, hr]; rfl
    have hi : l[i]? = some a := by
      have := congrArg List.head? hr
      rwa [List.head?_drop, List.head?_cons] at this
    have one := subAt_one (S l) c i
    rw [S_cps, hi, S_len] at one
    rw [List.length_cons, List.range'_succ, List.forIn_cons, posF]
    by_cases h : (a == c) = true
    · rw [List.filter_cons_of_pos (p := (· == c)) h, List.length_cons] at hl
      have hc : a = c := by simpa using h
      obtain ⟨o1, o2⟩ := one.mpr (by rw [hc])
      have cond : ((found.size < limit ∧ free ≤ i) ∧ i + (S [c]).length ≤ (S l).length) ∧ subAt (S l) (S [c]) i = true :=
        ⟨⟨⟨by omega, hf⟩, by rw [S_len, S_len]; exact o1⟩, o2⟩
      rw [if_pos h]
      have : occBody (S l) (S [c]) (S l).length limit i (found, free) = pure (ForInStep.yield (found.push i, i + (S [c]).length)) := by unfold occBody; rw [if_pos cond]
      rw [this]
      show (forIn (List.range' (i + 1) (r.length + 1)) (found.push i, i + (S [c]).length) (occBody (S l) (S [c]) (S l).length limit)).run.fst = _
      rw [occ_from l c limit r (i + 1) _ _ hr1 (by rw [S_len]; exact Nat.le_refl _) (by rw [Array.size_push]; omega)]
      apply Array.toList_inj.mp
      simp
    · rw [List.filter_cons_of_neg (p := (· == c)) h] at hl
      have hc : a ≠ c := by simpa using h
      rw [if_neg h]
      have : occBody (S l) (S [c]) (S l).length limit i (found, free) = pure (ForInStep.yield (found, free)) := by
        unfold occBody
        rw [if_neg (fun k => hc (by have := one.mp ⟨by have := k.1.2; rw [S_len, S_len] at this; exact this, k.2⟩; simpa using this))]
      rw [this]
      exact occ_from l c limit r (i + 1) _ _ hr1 (by omega) hl
theorem occ_S (l : List Nat) (c limit : Nat) (h : (l.filter (· == c)).length ≤ limit) : occurrences (S l) (S [c]) 0 (S l).length limit = posF (· == c) 0 l := by
  rw [occ_eq]
  have := occ_from l c limit l 0 #[] 0 rfl (Nat.le_refl _) (by simpa using h)
  rw [Nat.sub_zero, S_len]
  rw [S_len] at this
  rw [this]; simp
theorem splitMax_S {l : List Nat} {c : Nat} (hc : c < 256) (hl : 0 < l.length) (h : (l.filter (· == c)).length ≤ 2) : Txt.splitMax (S l) (S [c]) 2 = (splitW (· == c) [] l).map S := by
  unfold Txt.splitMax
  have h1 : (decide ((S l).length < (S [c]).length) || decide (Str.strKind (S l) < Str.strKind (S [c]))) = false := by
    rw [S_len, S_len]
    have k1 : Str.strKind (S [c]) = 1 := by simp [Str.strKind, S, hc]
    have k2 : 1 ≤ Str.strKind (S l) := by unfold Str.strKind; split; omega; split <;> omega
    rw [k1, decide_eq_false (show ¬ l.length < [c].length from Nat.not_lt.mpr hl), decide_eq_false (show ¬ Str.strKind (S l) < 1 by omega)]
    rfl
  rw [h1, if_neg (by decide)]
  have hlim : limitOf (S l) 2 = 2 := rfl
  rw [hlim, occ_S l c 2 h, show (S [c]).length = 1 from rfl]
  have key : partsBetween (S l) (posF (· == c) 0 l) 1 = (splitW (· == c) [] l).map S := by
    have := parts_split (· == c) (fun x : Nat => x) l [] []
    simp only [List.nil_append, List.map_id', List.length_nil, Nat.add_zero] at this
    rw [← this]
    exact parts_aux l (posF (· == c) 0 l) 0
  split
  · rename_i he
    have hp : posF (· == c) 0 l = [] := by simpa using he
    rw [hp] at key
    rw [← key]
    unfold partsBetween
    simp [extract_S, S_len]
  · exact key
/-- the pieces of the text are the texts of the pieces -/
theorem splitW_map {α : Type} {g : α → Bool} {f : α → Nat} {c : Nat} : ∀ (r cur : List α), (∀ a ∈ r, (f a = c ↔ g a = true)) → splitW (· == c) (cur.map f) (r.map f) = (splitW g cur r).map (·.map f)
  | [], cur, _ => rfl
  | a :: r, cur, h => by
    have ha := h a (.head _)
    rw [List.map_cons, splitW, splitW]
    by_cases hg : g a = true
    · rw [if_pos hg, if_pos (by simpa using ha.mpr hg), List.map_cons]
      congr 1
      exact splitW_map r [] fun b hb => h b (.tail _ hb)
    · rw [if_neg hg, if_neg (by simpa using fun e => hg (ha.mp e))]
      have := splitW_map (g := g) (f := f) (c := c) r (cur ++ [a]) fun b hb => h b (.tail _ hb)
      rw [List.map_append] at this
      exact this
theorem filter_map_len {α : Type} {g : α → Bool} {f : α → Nat} {c : Nat} : ∀ r : List α, (∀ a ∈ r, (f a = c ↔ g a = true)) → ((r.map f).filter (· == c)).length = (r.filter g).length
  | [], _ => rfl
  | a :: r, h => by
    have ha := h a (.head _)
    have ih := filter_map_len r fun b hb => h b (.tail _ hb)
    rw [List.map_cons]
    by_cases hg : g a = true
    · rw [List.filter_cons_of_pos hg, List.filter_cons_of_pos (by simpa using ha.mpr hg), List.length_cons, List.length_cons, ih]
    · rw [List.filter_cons_of_neg hg, List.filter_cons_of_neg (by simpa using fun e => hg (ha.mp e)), ih]
end Mine
end

section
open PySem PySem.W PySem.Calls PyProof.Rows
namespace Mine
section
variable {w : World} {A : Around} {E : Value → Shared → Prop} {s : Shared} {h₀ : Heap} {L : Addr} {m : Str → Option Value} {news : List (Addr × Obj)} {value slice : PySem.Expr} {x : List Nat} {t : Tok} {Q : Value → Shared → Prop}
theorem S_fits (hx : x.length ≤ 100) : (S x).length ≤ sizeLine := by rw [S_len, sizeLine_eq]; omega
theorem sl_from {p : Nat} {ui : Tok} (hF : Fr h₀ L s.heap m) (hN : News h₀ L s.heap news) (hp : p ≤ x.length) (hx : x.length ≤ 100)
    (h : ∀ h' t' k, Fr h₀ L h' m → News h₀ L h' news → Q (.str (S (x.drop p)) t') { s with heap := h', toks := k })
    (hs : subscripted slice false (.str (S x) t) (.ref s.heap.objs.size) = operate [.ref s.heap.objs.size, .str (S x) t] (getItem (.str (S x) t) (.ref s.heap.objs.size)))
    (ht : ∀ r, letTemporaryGo value (.str (S x) t) r = pure ()) :
    wpAny (model PG w) A (subscriptTail value slice (.str (S x) t) (.ref s.heap.objs.size)) Q E { s with heap := s.heap.push { cls := .type "slice", data := .fields #[.int (p : Int) ui, .none, .none] } } :=
  slice_strN_sn hF hN (fun h' t' k a b => by rw [slice_from hp]; exact h h' t' k a b) hs ht (S_fits hx)
theorem sl_toneg {q : Nat} {ui : Tok} (hF : Fr h₀ L s.heap m) (hN : News h₀ L s.heap news) (h0 : 0 < q) (hp : q ≤ x.length) (hx : x.length ≤ 100)
    (h : ∀ h' t' k, Fr h₀ L h' m → News h₀ L h' news → Q (.str (S (x.take (x.length - q))) t') { s with heap := h', toks := k })
    (hs : subscripted slice false (.str (S x) t) (.ref s.heap.objs.size) = operate [.ref s.heap.objs.size, .str (S x) t] (getItem (.str (S x) t) (.ref s.heap.objs.size)))
    (ht : ∀ r, letTemporaryGo value (.str (S x) t) r = pure ()) :
    wpAny (model PG w) A (subscriptTail value slice (.str (S x) t) (.ref s.heap.objs.size)) Q E { s with heap := s.heap.push { cls := .type "slice", data := .fields #[.none, .int (-(q : Int)) ui, .none] } } :=
  slice_strN_ns hF hN (fun h' t' k a b => by rw [slice_toneg h0 hp]; exact h h' t' k a b) hs ht (S_fits hx)
theorem sl_all (hF : Fr h₀ L s.heap m) (hN : News h₀ L s.heap news) (hx : x.length ≤ 100)
    (h : ∀ h' t' k, Fr h₀ L h' m → News h₀ L h' news → Q (.str (S x) t') { s with heap := h', toks := k })
    (hs : subscripted slice false (.str (S x) t) (.ref s.heap.objs.size) = operate [.ref s.heap.objs.size, .str (S x) t] (getItem (.str (S x) t) (.ref s.heap.objs.size)))
    (ht : ∀ r, letTemporaryGo value (.str (S x) t) r = pure ()) :
    wpAny (model PG w) A (subscriptTail value slice (.str (S x) t) (.ref s.heap.objs.size)) Q E { s with heap := s.heap.push { cls := .type "slice", data := .fields #[.none, .none, .none] } } :=
  slice_strN_nn hF hN (fun h' t' k a b => by rw [slice_all]; exact h h' t' k a b) hs ht (S_fits hx)
theorem truthyS {Q : Bool → Shared → Prop} (hx : x.length ≤ 100) (h : Q ((x.length : Int) != 0) { s with toks := s.toks + 1 + 1 }) : wpAny (model PG w) A (PySem.truthy (.str (S x) t)) Q E s :=
  SBL.truthy (by rw [S_len]; omega) (by rw [S_len]; exact h)
theorem lenS (hx : x.length ≤ 100) (h : Q (.int (x.length : Int) (s.toks + 1)) { s with toks := s.toks + 1 + 1 }) : wpAny (model PG w) A (call (.builtin "len") [.str (S x) t]) Q E s :=
  P.len_str (by rw [S_len]; omega) (by rw [S_len]; exact h)
theorem it_at {p : Nat} {u : Tok} (hp : p < x.length) (hx : x.length ≤ 100) (h : Q (.str (S [x.getD p 0]) s.toks) { s with toks := s.toks + 1 })
    (hs : subscripted slice false (.str (S x) t) (.int (p : Int) u) = operate [.str (S x) t, .int (p : Int) u] (getItem (.str (S x) t) (.int (p : Int) u))) (ht : ∀ r, letTemporaryGo value (.str (S x) t) r = pure ()) :
    wpAny (model PG w) A (subscriptTail value slice (.str (S x) t) (.int (p : Int) u)) Q E s :=
  item_str (by unfold fitsSsize; simp; omega) (by rw [S_len]; omega) (by rw [S_len]; omega) (fun _ => by rw [Mine.item_at hp]; exact h) hs ht
theorem it_neg {q : Nat} {u : Tok} (hp : q < x.length) (hx : x.length ≤ 100) (h : Q (.str (S [x.getD (x.length - 1 - q) 0]) s.toks) { s with toks := s.toks + 1 })
    (hs : subscripted slice false (.str (S x) t) (.int (-(q : Int) - 1) u) = operate [.str (S x) t, .int (-(q : Int) - 1) u] (getItem (.str (S x) t) (.int (-(q : Int) - 1) u))) (ht : ∀ r, letTemporaryGo value (.str (S x) t) r = pure ()) :
    wpAny (model PG w) A (subscriptTail value slice (.str (S x) t) (.int (-(q : Int) - 1) u)) Q E s :=
  item_str (by unfold fitsSsize; simp; omega) (by rw [S_len]; omega) (by rw [S_len]; omega) (fun _ => by rw [Mine.item_neg hp]; exact h) hs ht
end
end Mine
namespace Mine
theorem rs2 : ∀ n : Fin 9, Builtin.Range.rangeSize 2 (2 * ((n.val : Int) + 1)) 2 = (n.val : Int) := by decide
/-- list(range(2, 2 * (n + 1), 2)) -/
theorem list_range2 {w : World} {A : Around} {E : Value → Shared → Prop} {s : Shared} {h₀ : Heap} {L : Addr} {m : Str → Option Value} {news : List (Addr × Obj)} {Q : Value → Shared → Prop} {r : Addr} {n : Nat} {t u v : Tok}
    (hh : A.handled = none) (hF : Fr h₀ L s.heap m) (hN : News h₀ L s.heap news) (hr : IsRange s.heap r 2 (2 * ((n : Int) + 1)) 2 t u v) (hn : n ≤ 8)
    (h : ∀ D k (ws : List Value) h' tk, Fr h₀ L h' m → News h₀ L h' ((D, listOf ws.toArray k) :: news) → (∀ q ∈ news, q.1 ≠ D) → IntsAre ws (row0 n) → Q (.ref D) { s with heap := h', toks := tk }) :
    wpAny (model PG w) A (call (.type "list") [.ref r]) Q E s := by
  have hsz : Builtin.Range.rangeSize 2 (2 * ((n : Int) + 1)) 2 = (n : Int) := rs2 ⟨n, by omega⟩
  have hsm : Builtin.Range.small 2 (2 * ((n : Int) + 1)) 2 = true := by
    have : ∀ n : Fin 9, Builtin.Range.small 2 (2 * ((n.val : Int) + 1)) 2 = true := by decide
    exact this ⟨n, by omega⟩
  refine call_list_range hh hr hsm hsz (by omega) fun h' tk acc c' hk hS hI => ?_
  have nD : s.heap.get? s.heap.objs.size = none := by
    cases e : s.heap.get? s.heap.objs.size with
    | none => rfl
    | some o => exact absurd (Heap.lt_size e) (Nat.lt_irrefl _)
  obtain ⟨F', N', hne⟩ := news_new hF hN hk (new := [(s.heap.objs.size, listOf acc.toList.toArray c')]) (fun q hq => by rw [List.mem_singleton.mp hq]; exact ⟨by simpa using hS, nD⟩)
  refine h _ c' acc.toList h' tk F' N' (fun q hq => hne q hq _ (.head _)) (ints_of (by simp [row0, hI.1]) fun j y k hy hk' => ?_)
  obtain ⟨t, rfl⟩ := hI.2 j y (by simpa using hy)
  refine ⟨t, ?_⟩
  unfold row0 at hk'
  rw [List.getElem?_map] at hk'
  cases e : (List.range n)[j]? with
  | none => rw [e] at hk'; cases hk'
  | some q =>
    rw [e] at hk'; cases hk'
    have : q = j := by
      have := List.getElem?_eq_some_iff.mp e
      obtain ⟨h1, h2⟩ := this
      simpa using h2.symm
    rw [this]
end Mine
end

section
open PySem PySem.W PySem.Calls PyProof.Rows
namespace Mine

/-- the price of one sign for another -/
noncomputable def subC (x y : Str) : Int := if x == y then 0 else if Txt.lower x == Txt.lower y then 1 else 2

set_option maxRecDepth 100000 in
set_option maxHeartbeats 4000000 in
theorem c_subst {w : World} {mean : ExcName → Option Value} {mg mb : Str → Option Value} {base : Heap} {env : Env} {outer : List Env} {s : Shared} {x y : Str} {t1 t2 : Tok} {Q E : Value → Shared → Prop}
    (G : Gr w mean mg mb (AX 400 2000 env outer) base (env :: outer) s.heap) (hx : x.length ≤ 1) (hy : y.length ≤ 1)
    (ret : RetTo s Q fun v new => ∃ t, v = .int (subC x y) t ∧ new = []) : wpAny (model PG w) (AX 400 2000 env outer) (call (.ref 49) [.str x t1, .str y t2]) Q E s := by
  w_on
  have B' := G.B
  have X' := G.X
  have T' := G.T
  refine wpAny_call ?_
  refine' call_flat (f := 49) (fun q9 => if q9 = Str.ofString "ch_a" then some (Value.str x t1) else if q9 = Str.ofString "ch_b" then some (Value.str y t2) else none) G ?k6 ?k7 ?k8 ?k9 ?kB ?kM ?_ ?c2 ?c3 ?c4 ?c5
  (case k6 => k_is)
  (case k7 => k_is)
  (case k8 => exact Nat.le_of_ble_eq_true rfl)
  (case k9 => exact BindsTo.of_eq rfl)
  (case c5 => decide)
  (case kB => exact locs rfl)
  (case kM => (refine binds_2 rfl ?_; decide))
  (case c2 => exact rfl)
  (case c3 => exact rfl)
  (case c4 => exact rfl)
  intro L' h' tk' F'
  have N' : News s.heap L' h' [] := News.nil
  k_steps
  all_goals refine ret_end (s := s) (new := []) ret (by assumption) (by assumption) (List.forall_mem_nil _) ⟨_, congrArg (Value.int · _) ?_, rfl⟩
  · rw [subC, if_pos ‹(x == y) = true›]
  · rw [subC, if_neg (by rw [‹(x == y) = false›]; decide), if_pos ‹(Txt.lower x == Txt.lower y) = true›]
  · rw [subC, if_neg (by rw [‹(x == y) = false›]; decide), if_neg (by rw [‹(Txt.lower x == Txt.lower y) = false›]; decide)]
end Mine
end

section
open PySem PySem.W PySem.Calls PyProof.Rows
namespace Mine

/-- a finite double's whole part -/
noncomputable def toI (x : UInt64) : Option Int := match Float64.decode x with
  | .fin sg m e => some (Float64.truncOf sg m e)
  | _ => none
theorem call_int_n {w : World} {A : Around} {E : Value → Shared → Prop} {s : Shared} {x : UInt64} {u : Tok} {n : Int} {Q : Value → Shared → Prop} (hd : toI x = some n) (h : Q (.int n s.toks) { s with toks := s.toks + 1 }) :
    wpAny (model PG w) A (call (.type "int") [.float x u]) Q E s := by
  unfold toI at hd
  split at hd
  · rename_i sg m e he
    cases hd
    exact call_int_float he h
  · cases hd
/-- what hsv_to_rgb reckons, the whole part of six hues being n -/
noncomputable def hsvF (x y z : UInt64) (n : Int) : UInt64 × UInt64 × UInt64 :=
  let f := Float64.sub (Float64.mul x 0x4018000000000000) (Float64.ofInt n)
  let p := Float64.mul z (Float64.sub 0x3FF0000000000000 y)
  let q := Float64.mul z (Float64.sub 0x3FF0000000000000 (Float64.mul y f))
  let t := Float64.mul z (Float64.sub 0x3FF0000000000000 (Float64.mul y (Float64.sub 0x3FF0000000000000 f)))
  if n.fmod 6 = 0 then (z, t, p) else if n.fmod 6 = 1 then (q, z, p) else if n.fmod 6 = 2 then (p, z, t) else if n.fmod 6 = 3 then (p, q, z) else if n.fmod 6 = 4 then (t, p, z) else (z, p, q)
abbrev tup3 (r g b : UInt64) (t1 t2 t3 : Tok) : Obj := { cls := .type "tuple", data := .seq #[.float r t1, .float g t2, .float b t3] }
noncomputable def IsTup3 (v : Value) (new : List (Addr × Obj)) (r g b : UInt64) : Prop := ∃ a u1 u2 u3, v = .ref a ∧ new = [(a, tup3 r g b u1 u2 u3)]
theorem IsTup3.mk {a : Addr} {r g b : UInt64} {u1 u2 u3 : Tok} : IsTup3 (.ref a) [(a, tup3 r g b u1 u2 u3)] r g b := ⟨_, _, _, _, rfl, rfl⟩

end Mine
end

section
open PySem PySem.W PySem.Calls PyProof.Rows
namespace Mine

theorem max_three_num {w : World} {A : Around} {E : Value → Shared → Prop} {s : Shared} {Q : Value → Shared → Prop} {a b c : Value} (hh : A.handled = none) (ha : PySem.Flt.NumV a) (hb : PySem.Flt.NumV b) (hc : PySem.Flt.NumV c)
    (h : ∀ h' tk, (∀ d o, s.heap.get? d = some o → h'.get? d = some o) → Q (if PySem.Flt.ltV a b then (if PySem.Flt.ltV b c then c else b) else (if PySem.Flt.ltV a c then c else a)) { s with heap := h', toks := tk }) :
    wpAny (model PG w) A (call (.builtin "max") [a, b, c]) Q E s := by
  have hT : (s.heap.push { cls := .type "tuple", data := .seq #[a, b, c] }).IsTuple s.heap.objs.size #[a, b, c] := ⟨_, Heap.get?_push_size _ rfl, rfl, 0, rfl⟩
  refine call_max_three (wpAny_pyIter_tuple hT ?_)
  have hsz : (s.heap.push { cls := .type "tuple", data := .seq #[a, b, c] }).objs.size = s.heap.objs.size + 1 := Heap.size_push ..
  refine ⟨_, [_, s.heap.objs.size], [_], _, _, _, _, rfl, Walks.tuple (A := A.in1) hh _ s.heap.objs.size (by rw [hsz]; exact Nat.ne_of_lt (Nat.lt_succ_self _)) #[a, b, c],
    ⟨⟨_, Heap.get?_push_size _ rfl, rfl, rfl⟩, hT.push _⟩, fun d hd => ?_, by simp, PySem.Flt.cmpOf_gt #[a, b, c] (by simp [ha, hb, hc]), fun v h' tk hP hk => ?_⟩
  · show d < ((s.heap.push _).push _).objs.size
    rw [Heap.size_push, hsz]
    rcases List.mem_cons.mp hd with rfl | hd
    · rw [hsz]; exact Nat.lt_succ_self _
    · rcases List.mem_cons.mp hd with rfl | hd
      · exact Nat.lt_succ_of_lt (Nat.lt_succ_self _)
      · cases hd
  · have hold : ∀ d o, s.heap.get? d = some o → h'.get? d = some o := fun d o e => by
      refine hk d o (fun hm => ?_) (Heap.get?_push_of_some _ (Heap.get?_push_of_some _ e))
      rcases List.mem_cons.mp hm with e1 | hm
      · have := Heap.lt_size e; rw [e1, hsz] at this; exact Nat.lt_irrefl _ (Nat.lt_of_succ_lt this)
      · cases hm
    have := h h' tk hold
    have hv : v = (if PySem.Flt.ltV a b then (if PySem.Flt.ltV b c then c else b) else (if PySem.Flt.ltV a c then c else a)) := by
      have hP' : (#[a, b, c] : Array Value)[argBest (fun i j => PySem.Flt.ltV ((#[a, b, c] : Array Value).getD j .none) ((#[a, b, c] : Array Value).getD i .none)) 2]? = some v := hP
      by_cases h1 : PySem.Flt.ltV a b = true
      · rw [if_pos h1]
        by_cases h2 : PySem.Flt.ltV b c = true
        · rw [if_pos h2]; simp [argBest, h1, h2] at hP'; exact hP'.symm
        · rw [if_neg h2]; simp [argBest, h1, h2] at hP'; exact hP'.symm
      · rw [if_neg h1]
        by_cases h2 : PySem.Flt.ltV a c = true
        · rw [if_pos h2]; simp [argBest, h1, h2] at hP'; exact hP'.symm
        · rw [if_neg h2]; simp [argBest, h1, h2] at hP'; exact hP'.symm
    rw [hv]; exact this

theorem min_three_num {w : World} {A : Around} {E : Value → Shared → Prop} {s : Shared} {Q : Value → Shared → Prop} {a b c : Value} (hh : A.handled = none) (ha : PySem.Flt.NumV a) (hb : PySem.Flt.NumV b) (hc : PySem.Flt.NumV c)
    (h : ∀ h' tk, (∀ d o, s.heap.get? d = some o → h'.get? d = some o) → Q (if PySem.Flt.ltV b a then (if PySem.Flt.ltV c b then c else b) else (if PySem.Flt.ltV c a then c else a)) { s with heap := h', toks := tk }) :
    wpAny (model PG w) A (call (.builtin "min") [a, b, c]) Q E s := by
  have hT : (s.heap.push { cls := .type "tuple", data := .seq #[a, b, c] }).IsTuple s.heap.objs.size #[a, b, c] := ⟨_, Heap.get?_push_size _ rfl, rfl, 0, rfl⟩
  refine call_min_three (wpAny_pyIter_tuple hT ?_)
  have hsz : (s.heap.push { cls := .type "tuple", data := .seq #[a, b, c] }).objs.size = s.heap.objs.size + 1 := Heap.size_push ..
  refine ⟨_, [_, s.heap.objs.size], [_], _, _, _, _, rfl, Walks.tuple (A := A.in1) hh _ s.heap.objs.size (by rw [hsz]; exact Nat.ne_of_lt (Nat.lt_succ_self _)) #[a, b, c],
    ⟨⟨_, Heap.get?_push_size _ rfl, rfl, rfl⟩, hT.push _⟩, fun d hd => ?_, by simp, PySem.Flt.cmpOf_lt #[a, b, c] (by simp [ha, hb, hc]), fun v h' tk hP hk => ?_⟩
  · show d < ((s.heap.push _).push _).objs.size
    rw [Heap.size_push, hsz]
    rcases List.mem_cons.mp hd with rfl | hd
    · rw [hsz]; exact Nat.lt_succ_self _
    · rcases List.mem_cons.mp hd with rfl | hd
      · exact Nat.lt_succ_of_lt (Nat.lt_succ_self _)
      · cases hd
  · have hold : ∀ d o, s.heap.get? d = some o → h'.get? d = some o := fun d o e => by
      refine hk d o (fun hm => ?_) (Heap.get?_push_of_some _ (Heap.get?_push_of_some _ e))
      rcases List.mem_cons.mp hm with e1 | hm
      · have := Heap.lt_size e; rw [e1, hsz] at this; exact Nat.lt_irrefl _ (Nat.lt_of_succ_lt this)
      · cases hm
    have := h h' tk hold
    have hv : v = (if PySem.Flt.ltV b a then (if PySem.Flt.ltV c b then c else b) else (if PySem.Flt.ltV c a then c else a)) := by
      have hP' : (#[a, b, c] : Array Value)[argBest (fun i j => PySem.Flt.ltV ((#[a, b, c] : Array Value).getD i .none) ((#[a, b, c] : Array Value).getD j .none)) 2]? = some v := hP
      by_cases h1 : PySem.Flt.ltV b a = true
      · rw [if_pos h1]
        by_cases h2 : PySem.Flt.ltV c b = true
        · rw [if_pos h2]; simp [argBest, h1, h2] at hP'; exact hP'.symm
        · rw [if_neg h2]; simp [argBest, h1, h2] at hP'; exact hP'.symm
      · rw [if_neg h1]
        by_cases h2 : PySem.Flt.ltV c a = true
        · rw [if_pos h2]; simp [argBest, h1, h2] at hP'; exact hP'.symm
        · rw [if_neg h2]; simp [argBest, h1, h2] at hP'; exact hP'.symm
    rw [hv]; exact this

noncomputable def ltF (x y : UInt64) : Bool := Float64.cmp x y == some .lt
noncomputable def max3F (x y z : UInt64) : UInt64 := if ltF x y then (if ltF y z then z else y) else (if ltF x z then z else x)
noncomputable def min3F (x y z : UInt64) : UInt64 := if ltF y x then (if ltF z y then z else y) else (if ltF z x then z else x)
section
variable {w : World} {A : Around} {E : Value → Shared → Prop} {s : Shared} {Q : Value → Shared → Prop} {x y z : UInt64} {t u r : Tok} {h₀ : Heap} {L : Addr} {m : Str → Option Value} {news : List (Addr × Obj)}
theorem min3_ff (hh : A.handled = none) (F : Fr h₀ L s.heap m) (N : News h₀ L s.heap news)
    (h : ∀ h' tk v, Fr h₀ L h' m → News h₀ L h' news → Q (.float (min3F x y z) v) { s with heap := h', toks := tk }) :
    wpAny (model PG w) A (call (.builtin "min") [.float x t, .float y u, .float z r]) Q E s := by
  refine min_three_num hh (.float x t) (.float y u) (.float z r) fun h' tk kp => ?_
  have hx := fun v => h h' tk v (F.grownK kp) (N.grown kp)
  show Q (if ltF y x = true then (if ltF z y = true then Value.float z r else Value.float y u) else (if ltF z x = true then Value.float z r else Value.float x t)) _
  simp only [min3F] at hx
  by_cases h1 : ltF y x = true
  · rw [if_pos h1]
    simp only [if_pos h1] at hx
    by_cases h2 : ltF z y = true
    · rw [if_pos h2]; simp only [if_pos h2] at hx; exact hx _
    · rw [if_neg h2]; simp only [if_neg h2] at hx; exact hx _
  · rw [if_neg h1]
    simp only [if_neg h1] at hx
    by_cases h2 : ltF z x = true
    · rw [if_pos h2]; simp only [if_pos h2] at hx; exact hx _
    · rw [if_neg h2]; simp only [if_neg h2] at hx; exact hx _
end

/-- what rgb_to_hsv and rgb_to_hls reckon -/
noncomputable def rangeF (x y z : UInt64) : UInt64 := Float64.sub (max3F x y z) (min3F x y z)
noncomputable def sumF (x y z : UInt64) : UInt64 := Float64.add (max3F x y z) (min3F x y z)
noncomputable def eqF (x y : UInt64) : Bool := Float64.cmp x y == some Ordering.eq
noncomputable def hueF (x y z : UInt64) : UInt64 :=
  let rc := Float64.div (Float64.sub (max3F x y z) x) (rangeF x y z)
  let gc := Float64.div (Float64.sub (max3F x y z) y) (rangeF x y z)
  let bc := Float64.div (Float64.sub (max3F x y z) z) (rangeF x y z)
  let h := if eqF x (max3F x y z) then Float64.sub bc gc else if eqF y (max3F x y z) then Float64.sub (Float64.add 0x4000000000000000 rc) bc else Float64.sub (Float64.add 0x4010000000000000 gc) rc
  (Float64.divmod (Float64.div h 0x4018000000000000) 0x3FF0000000000000).2
section
variable {x y z : UInt64}
theorem hueF_x (h : (Float64.cmp x (max3F x y z) == some Ordering.eq) = true) : hueF x y z = (Float64.divmod (Float64.div (Float64.sub (Float64.div (Float64.sub (max3F x y z) z) (rangeF x y z)) (Float64.div (Float64.sub (max3F x y z) y) (rangeF x y z))) 0x4018000000000000) 0x3FF0000000000000).2 := by
  unfold hueF eqF; dsimp only; rw [if_pos h]
theorem hueF_y (h : (Float64.cmp x (max3F x y z) == some Ordering.eq) = false) (h' : (Float64.cmp y (max3F x y z) == some Ordering.eq) = true) : hueF x y z = (Float64.divmod (Float64.div (Float64.sub (Float64.add 0x4000000000000000 (Float64.div (Float64.sub (max3F x y z) x) (rangeF x y z))) (Float64.div (Float64.sub (max3F x y z) z) (rangeF x y z))) 0x4018000000000000) 0x3FF0000000000000).2 := by
  unfold hueF eqF; dsimp only; rw [if_neg (by rw [h]; decide), if_pos h']
theorem hueF_z (h : (Float64.cmp x (max3F x y z) == some Ordering.eq) = false) (h' : (Float64.cmp y (max3F x y z) == some Ordering.eq) = false) : hueF x y z = (Float64.divmod (Float64.div (Float64.sub (Float64.add 0x4010000000000000 (Float64.div (Float64.sub (max3F x y z) y) (rangeF x y z))) (Float64.div (Float64.sub (max3F x y z) x) (rangeF x y z))) 0x4018000000000000) 0x3FF0000000000000).2 := by
  unfold hueF eqF; dsimp only; rw [if_neg (by rw [h]; decide), if_neg (by rw [h']; decide)]
end
noncomputable def lightF (x y z : UInt64) : UInt64 := Float64.div (sumF x y z) 0x4000000000000000
noncomputable def satF (x y z : UInt64) : UInt64 :=
  if (Float64.cmp (lightF x y z) 0x3FE0000000000000 == some Ordering.lt || Float64.cmp (lightF x y z) 0x3FE0000000000000 == some Ordering.eq) = true then Float64.div (rangeF x y z) (sumF x y z)
  else Float64.div (rangeF x y z) (Float64.sub (Float64.sub 0x4000000000000000 (max3F x y z)) (min3F x y z))
section
variable {x y z : UInt64}
theorem satF_lo (h : (Float64.cmp (lightF x y z) 0x3FE0000000000000 == some Ordering.lt || Float64.cmp (lightF x y z) 0x3FE0000000000000 == some Ordering.eq) = true) : satF x y z = Float64.div (rangeF x y z) (sumF x y z) := by
  unfold satF; rw [if_pos h]
theorem satF_hi (h : (Float64.cmp (lightF x y z) 0x3FE0000000000000 == some Ordering.lt || Float64.cmp (lightF x y z) 0x3FE0000000000000 == some Ordering.eq) = false) : satF x y z = Float64.div (rangeF x y z) (Float64.sub (Float64.sub 0x4000000000000000 (max3F x y z)) (min3F x y z)) := by
  unfold satF; rw [if_neg (by rw [h]; decide)]
end

end Mine
end

section
open PySem PySem.W PySem.Calls PyProof.Rows
namespace Mine

local macro_rules | `(tactic| walk_at "call type:int") => `(tactic| (k_here; (with_reducible show wpAny _ _ (call _ [Value.float _ _]) _ _ _); refine call_int_n (by assumption) ?_; dsimp only))
/-- the sign of a spot: place j of sixteen, of this kind -/
noncomputable def signS (j kind : Int) : Str := if kind = 2 then Str.ofString "'" else ⟨#[((if kind = 0 then 97 else 65) + j).toNat]⟩
theorem signS_item {j k : Int} (j0 : 0 ≤ j) (j1 : j < 16) (k0 : 0 ≤ k) (k2 : k ≤ 2) (h : k ≠ 2) : Txt.item (Str.ofString "abcdefghijklmnopABCDEFGHIJKLMNOP") (j + 16 * k) = signS j k := by
  have all : ∀ (a : Fin 16) (b : Fin 2), Txt.item (Str.ofString "abcdefghijklmnopABCDEFGHIJKLMNOP") (((a.val : Nat) : Int) + 16 * ((b.val : Nat) : Int)) = signS ((a.val : Nat) : Int) ((b.val : Nat) : Int) := by decide +kernel
  have := all ⟨j.toNat, by omega⟩ ⟨k.toNat, by omega⟩
  simpa [Int.toNat_of_nonneg j0, Int.toNat_of_nonneg k0] using this

set_option maxRecDepth 100000 in
set_option maxHeartbeats 4000000 in
theorem c_sign {w : World} {mean : ExcName → Option Value} {mg mb : Str → Option Value} {base : Heap} {env : Env} {outer : List Env} {s : Shared} {x : UInt64} {j k : Int} {t1 t2 : Tok} {Q E : Value → Shared → Prop}
    (G : Gr w mean mg mb (AX 400 2000 env outer) base (env :: outer) s.heap) (hj : toI (Float64.mul x (Float64.ofInt 16)) = some j) (j0 : 0 ≤ j) (j1 : j < 16) (k0 : 0 ≤ k) (k2 : k ≤ 2)
    (ret : RetTo s Q fun v new => ∃ t, v = .str (signS j k) t ∧ new = []) : wpAny (model PG w) (AX 400 2000 env outer) (call (.ref 75) [.float x t1, .int k t2]) Q E s := by
  w_on
  have B' := G.B
  have X' := G.X
  have T' := G.T
  refine wpAny_call ?_
  refine' call_flat (f := 75) (fun q9 => if q9 = Str.ofString "hue" then some (Value.float x t1) else if q9 = Str.ofString "kind" then some (Value.int k t2) else none) G ?k6 ?k7 ?k8 ?k9 ?kB ?kM ?_ ?c2 ?c3 ?c4 ?c5
  (case k6 => k_is)
  (case k7 => k_is)
  (case k8 => exact Nat.le_of_ble_eq_true rfl)
  (case k9 => exact BindsTo.of_eq rfl)
  (case c5 => decide)
  (case kB => exact locs rfl)
  (case kM => (refine binds_2 rfl ?_; decide))
  (case c2 => exact rfl)
  (case c3 => exact rfl)
  (case c4 => exact rfl)
  intro L' h' tk' F'
  have N' : News s.heap L' h' [] := News.nil
  k_steps
  · refine ret_end (s := s) (new := []) ret (by assumption) (by assumption) (List.forall_mem_nil _) ⟨_, congrArg (Value.str · _) ?_, rfl⟩
    rw [signS, if_pos ‹k = 2›]
  · exact ret_end (s := s) (new := []) ret (by assumption) (by assumption) (List.forall_mem_nil _) ⟨_, congrArg (Value.str · _) (signS_item j0 j1 k0 k2 ‹_›), rfl⟩

set_option maxRecDepth 100000 in
set_option maxHeartbeats 4000000 in
theorem c_shown_l {w : World} {mean : ExcName → Option Value} {mg mb : Str → Option Value} {base : Heap} {env : Env} {outer : List Env} {s : Shared} {l : Addr} {x y z : Str} {t1 t2 t3 : Tok} {Q E : Value → Shared → Prop}
    (G : Gr w mean mg mb (AX 320 1000 env outer) base (env :: outer) s.heap) (hl : s.heap.IsList l #[.str x t1, .str y t2, .str z t3]) (hx : x.length ≤ 100) (hz : z.length ≤ 100)
    (ret : RetTo s Q fun v new => ∃ t, v = .str (x ++ z) t ∧ new = []) : wpAny (model PG w) (AX 320 1000 env outer) (call (.ref 99) [.ref l]) Q E s := by
  w_on
  have B' := G.B
  have X' := G.X
  have T' := G.T
  refine wpAny_call ?_
  refine' call_flat (f := 99) (fun q9 => if q9 = Str.ofString "parts" then some (Value.ref l) else none) G ?k6 ?k7 ?k8 ?k9 ?kB ?kM ?_ ?c2 ?c3 ?c4 ?c5
  (case k6 => k_is)
  (case k7 => k_is)
  (case k8 => exact Nat.le_of_ble_eq_true rfl)
  (case k9 => exact BindsTo.of_eq rfl)
  (case c5 => decide)
  (case kB => exact locs rfl)
  (case kM => exact binds_1 rfl)
  (case c2 => exact rfl)
  (case c3 => exact rfl)
  (case c4 => exact rfl)
  intro L' h' tk' F'
  have N' : News s.heap L' h' [] := News.nil
  k_steps
  exact ret_end (s := s) (new := []) ret (by assumption) (by assumption) (List.forall_mem_nil _) ⟨_, rfl, rfl⟩

set_option maxRecDepth 100000 in
set_option maxHeartbeats 4000000 in
theorem c_shown_t {w : World} {mean : ExcName → Option Value} {mg mb : Str → Option Value} {base : Heap} {env : Env} {outer : List Env} {s : Shared} {l : Addr} {z : Str} {t3 : Tok} {Q E : Value → Shared → Prop}
    (G : Gr w mean mg mb (AX 320 1000 env outer) base (env :: outer) s.heap) (hl : IsTup s.heap l #[.none, .none, .str z t3])
    (ret : RetTo s Q fun v new => ∃ t, v = .str z t ∧ new = []) : wpAny (model PG w) (AX 320 1000 env outer) (call (.ref 99) [.ref l]) Q E s := by
  w_on
  have B' := G.B
  have X' := G.X
  have T' := G.T
  refine wpAny_call ?_
  refine' call_flat (f := 99) (fun q9 => if q9 = Str.ofString "parts" then some (Value.ref l) else none) G ?k6 ?k7 ?k8 ?k9 ?kB ?kM ?_ ?c2 ?c3 ?c4 ?c5
  (case k6 => k_is)
  (case k7 => k_is)
  (case k8 => exact Nat.le_of_ble_eq_true rfl)
  (case k9 => exact BindsTo.of_eq rfl)
  (case c5 => decide)
  (case kB => exact locs rfl)
  (case kM => exact binds_1 rfl)
  (case c2 => exact rfl)
  (case c3 => exact rfl)
  (case c4 => exact rfl)
  intro L' h' tk' F'
  have N' : News s.heap L' h' [] := News.nil
  k_steps
  exact ret_end (s := s) (new := []) ret (by assumption) (by assumption) (List.forall_mem_nil _) ⟨_, rfl, rfl⟩

theorem len_listN {w : World} {A : Around} {E : Value → Shared → Prop} {s : Shared} {l : Addr} {items : Array Value} {n : Nat} {Q : Value → Shared → Prop} (hl : s.heap.IsList l items) (hn : items.size = n) (hfit : n < 1000)
    (h : Q (.int n (s.toks + 1)) { s with toks := s.toks + 1 + 1 }) : wpAny (model PG w) A (call (.builtin "len") [.ref l]) Q E s := by
  subst hn
  exact len_list hl (by omega) h
theorem three_strs {l : List (Str × Tok)} {p q r : Str} (h : l.map (fun x => x.fst) = [p, q, r]) : ∃ t1 t2 t3, l = [(p, t1), (q, t2), (r, t3)] := by
  match l, h with
  | [(a, t1), (b, t2), (c, t3)], h => simp at h; obtain ⟨rfl, rfl, rfl⟩ := h; exact ⟨t1, t2, t3, rfl⟩

set_option maxRecDepth 100000 in
set_option maxHeartbeats 4000000 in
theorem c_dec3 {w : World} {mean : ExcName → Option Value} {mg mb : Str → Option Value} {base : Heap} {env : Env} {outer : List Env} {s : Shared} {x p q r : Str} {t1 : Tok} {Q E : Value → Shared → Prop}
    (G : Gr w mean mg mb (AX 320 1000 env outer) base (env :: outer) s.heap) (hx : x.length ≤ 100) (hp : Txt.splitMax x (Str.ofString "'") 2 = [p, q, r])
    (ret : RetTo s Q fun v new => ∃ a n u1 u2 u3, v = .ref a ∧ new = [(a, listOf #[.str p u1, .str q u2, .str r u3] n)]) : wpAny (model PG w) (AX 320 1000 env outer) (call (.ref 21) [.str x t1]) Q E s := by
  w_on
  have B' := G.B
  have X' := G.X
  have T' := G.T
  refine wpAny_call ?_
  refine' call_flat (f := 21) (fun q9 => if q9 = Str.ofString "s" then some (Value.str x t1) else none) G ?k6 ?k7 ?k8 ?k9 ?kB ?kM ?_ ?c2 ?c3 ?c4 ?c5
  (case k6 => k_is)
  (case k7 => k_is)
  (case k8 => exact Nat.le_of_ble_eq_true rfl)
  (case k9 => exact BindsTo.of_eq rfl)
  (case c5 => decide)
  (case kB => exact locs rfl)
  (case kM => exact binds_1 rfl)
  (case c2 => exact rfl)
  (case c3 => exact rfl)
  (case c4 => exact rfl)
  intro L' h' tk' F'
  have N' : News s.heap L' h' [] := News.nil
  k_steps
  have he := ‹List.map (fun x : Str × Tok => x.fst) _ = Txt.splitMax x (Str.ofString "'") 2›
  rw [hp] at he
  obtain ⟨u1, u2, u3, rfl⟩ := three_strs he
  refine len_listN (n := 3) (News.isList (by k_asm) (by k_mem)) rfl (by decide) ?_
  dsimp only
  k_steps
  exact ret_end (s := s) (new := [(_, _)]) ret (by assumption) (by assumption) (fun p hp => hp) ⟨_, _, _, _, _, rfl, rfl⟩

set_option maxRecDepth 100000 in
set_option maxHeartbeats 4000000 in
theorem c_dec1 {w : World} {mean : ExcName → Option Value} {mg mb : Str → Option Value} {base : Heap} {env : Env} {outer : List Env} {s : Shared} {x : Str} {t1 : Tok} {Q E : Value → Shared → Prop}
    (G : Gr w mean mg mb (AX 320 1000 env outer) base (env :: outer) s.heap) (hx : x.length ≤ 100) (hp : (Txt.splitMax x (Str.ofString "'") 2).length ≤ 2)
    (ret : RetTo s Q fun v new => ∃ a t, v = .ref a ∧ new = [(a, { cls := .type "tuple", data := .seq #[.none, .none, .str x t] })]) : wpAny (model PG w) (AX 320 1000 env outer) (call (.ref 21) [.str x t1]) Q E s := by
  w_on
  have B' := G.B
  have X' := G.X
  have T' := G.T
  refine wpAny_call ?_
  refine' call_flat (f := 21) (fun q9 => if q9 = Str.ofString "s" then some (Value.str x t1) else none) G ?k6 ?k7 ?k8 ?k9 ?kB ?kM ?_ ?c2 ?c3 ?c4 ?c5
  (case k6 => k_is)
  (case k7 => k_is)
  (case k8 => exact Nat.le_of_ble_eq_true rfl)
  (case k9 => exact BindsTo.of_eq rfl)
  (case c5 => decide)
  (case kB => exact locs rfl)
  (case kM => exact binds_1 rfl)
  (case c2 => exact rfl)
  (case c3 => exact rfl)
  (case c4 => exact rfl)
  intro L' h' tk' F'
  have N' : News s.heap L' h' [] := News.nil
  k_steps
  have he := congrArg List.length ‹List.map (fun x : Str × Tok => x.fst) _ = Txt.splitMax x (Str.ofString "'") 2›
  rw [List.length_map] at he
  rw [← he] at hp
  refine len_listN (News.isList (by k_asm) (by k_mem)) (by simp only [List.size_toArray, strValues, List.length_map]; rfl) (by omega) ?_
  dsimp only
  k_steps
  exact ret_end (s := s) (new := [(_, _)]) ret (by assumption) (by assumption) (fun p hp => List.mem_cons.mpr (.inl (List.mem_singleton.mp hp))) ⟨_, _, rfl, rfl⟩
end Mine
end

section
open PySem PySem.W PySem.Calls PyProof.Rows
namespace Mine
local macro_rules | `(tactic| walk_at "mine pad") => `(tactic| skip)
local macro_rules | `(tactic| walk_at "eval Name") => `(tactic| (k_here; k_dflt (refine' ld ?k1 ?k2 ?_; (case k1 => k_asm); (case k2 => assumption); k_whole)))

theorem range_small {a : Int} (h0 : 0 ≤ a) (h1 : a < 1000) : Builtin.Range.small 0 a 1 = true := small_one (by omega) (by omega) (by omega) (by omega)
theorem range_size {n : Nat} : Builtin.Range.rangeSize 0 (n : Int) 1 = (n : Int) := by rw [rangeSize_nat]; omega

set_option maxRecDepth 100000 in
set_option maxHeartbeats 4000000 in
theorem c_sums {w : World} {mean : ExcName → Option Value} {mg mb : Str → Option Value} {base : Heap} {env : Env} {outer : List Env} {s : Shared} {l : Addr} {vs : List Value} {ns : List Int} {Q E : Value → Shared → Prop}
    (G : Gr w mean mg mb (AX 320 1000 env outer) base (env :: outer) s.heap) (hl : s.heap.IsList l vs.toArray) (hi : IntsAre vs ns) (hn : ns.length ≤ 63)
    (ret : RetTo s Q fun v new => ∃ a n ws ms, v = .ref a ∧ new = [(a, listOf ws.toArray n)] ∧ IntsAre ws ms ∧ ms.length = 8) : wpAny (model PG w) (AX 320 1000 env outer) (call (.ref 63) [.ref l]) Q E s := by
  w_on
  have B' := G.B
  have X' := G.X
  have T' := G.T
  refine wpAny_call ?_
  refine' call_flat (f := 63) (fun q9 => if q9 = Str.ofString "script" then some (Value.ref l) else none) G ?k6 ?k7 ?k8 ?k9 ?kB ?kM ?_ ?c2 ?c3 ?c4 ?c5
  (case k6 => k_is)
  (case k7 => k_is)
  (case k8 => exact Nat.le_of_ble_eq_true rfl)
  (case k9 => exact BindsTo.of_eq rfl)
  (case c5 => decide)
  (case kB => exact locs rfl)
  (case kM => exact binds_1 rfl)
  (case c2 => exact rfl)
  (case c3 => exact rfl)
  (case c4 => exact rfl)
  intro L' h' tk' F'
  have N' : News s.heap L' h' [] := News.nil
  (repeat' (first | ((fail_if_success (with_reducible (first | (show wpAny _ _ (pyIter _) _ _ _) | (show wpAny _ _ (exec (Stmt.While _ _ _ _) _) _ _ _)))); first | (k_unfold; (try dsimp only)) | (k_end; wrow_close) | walk1 | (dsimp only; walk1) | (leave1; walk_say "STEP leave1"; try dsimp only) | fail "no step")))
  obtain ⟨n, hn1, hn2⟩ : ∃ n : Nat, (if (24 : Int) < (ns.length : Int) then (24 : Int) else (ns.length : Int)) = (n : Int) ∧ n ≤ ns.length := by
    by_cases h : (24 : Int) < (ns.length : Int)
    · exact ⟨24, by rw [if_pos h]; rfl, by omega⟩
    · exact ⟨ns.length, by rw [if_neg h], by omega⟩
  have hr := ‹IsRange _ _ 0 (if (24 : Int) < (ns.length : Int) then (24 : Int) else (ns.length : Int)) 1 _ _ _›
  rw [hn1] at hr
  rename_i a₁ _ _ _ _ _ _ _ _ _ _ _ _ _ _ _ _ _
  refine iterJ_range (n := n) (fun i m news => m (Str.ofString "sums") = some (.ref a₁) ∧ m (Str.ofString "script") = some (.ref l) ∧ ∃ k ws ms, news = [(a₁, listOf (ws : List Value).toArray k)] ∧ IntsAre ws ms ∧ ms.length = 8) rfl hr (range_small (by omega) (by omega)) range_size (by assumption) (by assumption) ⟨rfl, rfl, 0, _, [54, 255, 172, 235, 2, 17, 6, 33], rfl, (by repeat constructor), rfl⟩ ?_ ?_
  · rintro I i m _ t h tk hlt ⟨hm1, hm2, k, ws, ms, rfl, hw, hlen⟩ off F N
    have hI : @Ne Nat a₁ I := off _ (.head _)
    have hb1 : 0 ≤ (0 + (i : Int)).fmod 8 ∧ (0 + (i : Int)).fmod 8 < 8 := by rw [Int.fmod_eq_emod_of_nonneg _ (by decide)]; omega
    (repeat' (first | ((fail_if_success (with_reducible (first | (show wpAny _ _ (pyIter _) _ _ _) | (show wpAny _ _ (exec (Stmt.While _ _ _ _) _) _ _ _)))); first | (k_unfold; (try dsimp only)) | (k_end; wrow_close) | walk1 | (dsimp only; walk1) | (leave1; walk_say "STEP leave1"; try dsimp only) | fail "no step")))
    refine TurnPost.next (by assumption) (by assumption) (fun p hp => hp) (fun p hp => by rw [List.mem_singleton.mp hp]; exact hI) ?_
    exact ⟨hm1, hm2, _, _, _, rfl, by assumption, by rw [List.length_set]; exact hlen⟩
  · rintro m _ h tk ⟨hm1, hm2, k, ws, ms, rfl, hw, hlen⟩ F N
    (repeat' (first | ((fail_if_success (with_reducible (first | (show wpAny _ _ (pyIter _) _ _ _) | (show wpAny _ _ (exec (Stmt.While _ _ _ _) _) _ _ _)))); first | (k_unfold; (try dsimp only)) | (k_end; wrow_close) | walk1 | (dsimp only; walk1) | (leave1; walk_say "STEP leave1"; try dsimp only) | fail "no step")))
    exact ret_end (s := s) (new := [(_, _)]) ret (by assumption) (by assumption) (fun p hp => hp) ⟨_, _, _, _, rfl, rfl, hw, hlen⟩
end Mine
end

open PySem PySem.W PySem.Calls PyProof.Rows Mine
local macro_rules | `(tactic| walk_at "mine step") => `(tactic| (first | (k_unfold; (try dsimp only)) | (k_end; wrow_close) | walk1 | (dsimp only; walk1) | (leave1; walk_say "STEP leave1"; try dsimp only) | fail "no step"))
local macro_rules | `(tactic| walk_at "mine stops") => `(tactic| (fail_if_success (with_reducible (first | (show wpAny _ _ (pyIter _) _ _ _) | (show wpAny _ _ (getMethod (Value.ref _) (Str.ofString "index") _) _ _ _) | (show wpAny _ _ (call (Value.ref _) _ _) _ _ _) | (show wpAny _ _ (exec (Stmt.For _ _ _ _ _) _) _ _ _) | (show wpAny _ _ (exec (Stmt.While _ _ _ _) _) _ _ _) | (show wpAny _ _ (eval (Expr.ListComp _ _ _ _) _) _ _ _) | (show wpAny _ _ (exec (Stmt.Assign _ (Expr.ListComp _ _ _ _) _) _) _ _ _)))))
local macro_rules | `(tactic| walk_at "mine go") => `(tactic| repeat' (first | (walk_at "mine stops"; walk_at "mine step")))
local macro_rules | `(tactic| walk_at "loadName") => `(tactic| (k_here; k_dflt (refine' ldn ?k1 ?k2 ?_; (case k1 => k_asm); (case k2 => assumption); k_whole)))
local macro_rules | `(tactic| walk_at "eval Name") => `(tactic| (k_here; (with_reducible show wpAny _ _ (eval (Expr.Name _ _) (envOf _ _ _ _ _)) _ _ _); k_dflt (refine' ld ?k1 ?k2 ?_; (case k1 => k_asm); (case k2 => assumption); k_whole)))
local macro_rules | `(tactic| walk_at "eval Name") => `(tactic| (k_here; (with_reducible show wpAny _ _ (eval (Expr.Name _ _) (envOfC _ _ _ _ _)) _ _ _); k_dflt (refine' nameX_L ?F ?v ?_ ?a ?b; (case F => k_asm); (case a => rfl); (case b => rfl); (case v => assumption); k_whole)))
local macro_rules | `(tactic| walk_at "eval Name") => `(tactic| (k_here; (with_reducible show wpAny _ _ (eval (Expr.Name _ _) (compEnvC _ _ _ _)) _ _ _); k_dflt (refine' nameC_C ?F ?c ?v ?_ ?a ?b ?d; (case a => rfl); (case b => rfl); (case d => decide); (case F => k_asm); (case c => rfl); (case v => assumption); k_whole)))
local macro_rules | `(tactic| walk_at "eval Name") => `(tactic| (k_here; (with_reducible show wpAny _ _ (eval (Expr.Name _ _) (compEnvC _ _ _ _)) _ _ _); k_dflt (refine' nameC_L ?F ?v ?_ ?a ?b ?d; (case a => rfl); (case b => rfl); (case d => decide); (case F => k_asm); (case v => assumption); k_whole)))

section
open PySem PySem.W PySem.Calls PyProof.Rows
namespace Mine

theorem sz8 {n : Nat} (h : n = 8) : n ≤ sizeLine := by rw [h]; decide

set_option maxRecDepth 100000 in
set_option maxHeartbeats 4000000 in
theorem c_kinds {w : World} {mean : ExcName → Option Value} {mg mb : Str → Option Value} {base : Heap} {env : Env} {outer : List Env} {s : Shared} {l : Addr} {vs : List Value} {ns : List Int} {Q E : Value → Shared → Prop}
    (G : Gr w mean mg mb (AX 320 1000 env outer) base (env :: outer) s.heap) (hl : s.heap.IsList l vs.toArray) (hi : IntsAre vs ns) (hn : ns.length = 8)
    (ret : RetTo s Q fun v new => ∃ a n ws ms, v = .ref a ∧ new = [(a, listOf ws.toArray n)] ∧ IntsAre ws ms ∧ KOk ms) : wpAny (model PG w) (AX 320 1000 env outer) (call (.ref 68) [.ref l]) Q E s := by
  w_on
  have B' := G.B
  have X' := G.X
  have T' := G.T
  refine wpAny_call ?_
  refine' call_flatC (f := 68) G ?k6 ?k7 ?k8 ?k9 ?kB ?kD ?_ ?c2 ?c3 ?c4
  (case k6 => k_is)
  (case k7 => k_is)
  (case k8 => exact Nat.le_of_ble_eq_true rfl)
  (case k9 => exact BindsTo.of_eq rfl)
  (case kB => exact rfl)
  (case kD => decide +kernel)
  (case c2 => exact rfl)
  (case c3 => exact rfl)
  (case c4 => exact rfl)
  intro L' h' tk' cells' F' N' Y'
  k_cells Y'
  dsimp only
  walk_at "mine go"
  walk1
  (try k_unmd)
  (try k_fold)
  refine wpAny_ListComp_free (cl := []) (fun _ => true) (fun v y => ∃ n t t', v = .int n t ∧ y = .int ((n.fdiv 2).fmod 3) t') ?c1 ?c2 ?c3 ?c4 ?c5 ?_ ?c6
  (case c1 => with_unfolding_all rfl)
  (case c2 => decide)
  (case c3 => with_unfolding_all rfl)
  (case c4 => decide)
  (case c5 => with_unfolding_all rfl)
  (case c6 => intro _; with_unfolding_all rfl)
  walk_at "mine go"
  refine src_list rfl (stays_list F'.keep hl) (sz8 (hi.length.trans hn)) ?_
  rintro it _ ⟨h₂, rfl⟩ S
  refine comp_evalT S ?_ ?_
  · intro C i v s₃ m₃ E' hP Fc hm
    obtain ⟨n, t, rfl, -⟩ := hi.at i v hP
    walk_at "mine go"
    exact CEnd.mk (fun _ _ e => e) ⟨_, _, _, rfl, rfl⟩
  · intro D k ys h₃ tk₃ hlen hys st nw
    have hI : IntsAre ys (ns.map fun n => (n.fdiv 2).fmod 3) := ints_of (by rw [hlen, hi.length, List.length_map]) fun j y n hy hn' => by
      obtain ⟨v, hv, n', t, t', rfl, rfl⟩ := hys j y hy
      obtain ⟨n'', t'', e1, e2⟩ := hi.at j _ hv
      cases e1
      rw [List.getElem?_map, e2] at hn'
      cases hn'
      exact ⟨_, rfl⟩
    obtain ⟨F2, N2, hne⟩ := news_new F' N' st nw
    have hDL : @Ne Nat (L' + 1) D := hne _ (.head _) _ (.head _)
    clear hys nw st hne S
    obtain ⟨ks, hks⟩ : ∃ ks, ks = ns.map fun n => (n.fdiv 2).fmod 3 := ⟨_, rfl⟩
    rw [← hks] at hI
    have hk8 : ks.length = 8 := by rw [hks, List.length_map, hn]
    have hys8 : ys.length = 8 := by rw [hI.length, hk8]
    dsimp only [List.cons_append, List.nil_append] at N2
    walk_at "mine go"
    rename_i h₄ o₄ F4 N4 d4
    have hD4 : h₄.IsList D ys.toArray := News.isList N4 (.head _)
    have hC4 : h₄.IsCell (L' + 1) (some (.ref D)) := ⟨o₄, (N4 _ (.tail _ (.head _))).1, d4⟩
    (try k_unmd)
    (try k_fold)
    refine wpAny_Assign_ListComp_free (cl := [(Str.ofString "kinds", L' + 1)]) (pInt fun k => ks.getD k.toNat 0 == 2) (fun v y => y = v) ?c0 ?c1 ?c2 ?c3 ?c4 ?c5 ?c7 ?c8 ?_ ?c6
    (case c0 => with_unfolding_all rfl)
    (case c7 => with_unfolding_all rfl)
    (case c8 => with_unfolding_all rfl)
    (case c1 => with_unfolding_all rfl)
    (case c2 => decide)
    (case c3 => with_unfolding_all rfl)
    (case c4 => decide)
    (case c5 => with_unfolding_all rfl)
    (case c6 => intro _; with_unfolding_all rfl)
    walk_at "mine go"
    rename_i h5 tk5 t5 u5 v5 hr5 F5 N5 kp5
    have hD5 : h5.IsList D ys.toArray := stays_list kp5 hD4
    have hC5 : h5.IsCell (L' + 1) (some (.ref D)) := hC4.keeps kp5
    refine src_range (n := 8) rfl hr5 (by decide) ?_
    rintro it _ ⟨h₆, rfl⟩ S
    refine comp_assign S F5 N5 ?_ ?_ ?_
    · rintro C i _ s₃ m₃ E' ⟨hi8, t, rfl⟩ Fc hm
      refine ctest_one ?_
      walk_at "mine go"
      exact TEnd.mk (fun _ _ e => e) rfl
    · rintro C i _ s₃ m₃ E' ⟨hi8, t, rfl⟩ _ Fc hm
      walk_at "mine go"
      exact CEnd.mk (fun _ _ e => e) rfl
    · intro D2 k2 ys2 vs2 h7 tk7 hlen2 hP2 hF2 F7 N7 hne7
      have hv2 : IntsAre vs2 [0, 1, 2, 3, 4, 5, 6, 7] := ints_of hlen2 fun j y n hy hn' => by
        obtain ⟨hj, t, rfl⟩ := hP2 j y hy
        refine ⟨t, ?_⟩
        have : ∀ j : Fin 8, ([0, 1, 2, 3, 4, 5, 6, 7] : List Int)[j.val]? = some (j.val : Int) := by decide
        rw [this ⟨j, hj⟩] at hn'
        cases hn'; rfl
      have hI2 := ints_filter (fun k => ks.getD k.toNat 0 == 2) hv2
      rw [← paired_eq hF2] at hI2
      obtain ⟨gs, hgs⟩ : ∃ gs, gs = gatesOf ks := ⟨_, rfl⟩
      rw [show List.filter (fun k : Int => ks.getD k.toNat 0 == 2) [0, 1, 2, 3, 4, 5, 6, 7] = gs from hgs.symm] at hI2
      have hg8 : gs.length ≤ 8 := by rw [hgs]; exact List.length_filter_le _ _
      have h01 : @Ne Nat D D2 := hne7 _ (.head _)
      have h02 : @Ne Nat (L' + 1) D2 := hne7 _ (.tail _ (.head _))
      clear hF2 hP2 hv2 hne7
      walk_at "mine go"
      (try k_unmd)
      (try k_fold)
      refine For_invV s.heap ?f1 ?f2 ?_ ?f3 ?f4
      (case f1 => with_unfolding_all rfl)
      (case f2 => with_unfolding_all rfl)
      (case f3 => intro _; with_unfolding_all rfl)
      (case f4 => passes_own)
      walk_at "mine go"
      rename_i D3 ws3 h8 F8 N8 hI3 _ _ l3
      have hg3 : ∀ g ∈ gs, 0 ≤ g ∧ g < 8 := by
        intro g hg
        rw [hgs] at hg
        have h1 := (List.mem_filter.mp hg).1
        have : ∀ g ∈ ([0, 1, 2, 3, 4, 5, 6, 7] : List Int), 0 ≤ g ∧ g < 8 := by decide
        exact this g h1
      refine iterJ_list (vs := ws3) (lo := listOf ws3.toArray 0) (n := 0) (fun i m news => ∃ ws kk ms, news = [(D3, listOf ws3.toArray 0), (D2, listOf ys2.toArray k2), (D, listOf (ws : List Value).toArray kk), (L' + 1, o₄)] ∧ IntsAre ws ms ∧ ms = ((gs.drop 2).take i).foldl (fun a g => a.set g.toNat 1) ks) rfl F8 N8 rfl rfl ?_ ⟨_, _, _, rfl, hI, rfl⟩ ?_ ?_
      · rintro i m _ ⟨ws, kk, ms, rfl, -, -⟩
        exact .head _
      · rintro I i v m _ it h9 tk9 hv ⟨ws, kk, ms, rfl, hw, hms⟩ off F9 N9
        have hI1 : @Ne Nat D3 I := off _ (.head _)
        have hI2 : @Ne Nat D2 I := off _ (.tail _ (.head _))
        have hI3' : @Ne Nat D I := off _ (.tail _ (.tail _ (.head _)))
        have hI4 : @Ne Nat (L' + 1) I := off _ (.tail _ (.tail _ (.tail _ (.head _))))
        obtain ⟨g, t, rfl, hg⟩ := hI3.at i v hv
        have hgb := hg3 g (List.mem_of_mem_drop (List.mem_of_getElem? hg))
        have hm8 : ms.length = 8 := by rw [hms, foldl_set_length, hk8]
        walk_at "mine go"
        refine TurnPost.next (by assumption) (by assumption) (fun p hp => hp) ?_ ?_
        · intro p hp
          simp only [List.mem_cons, List.not_mem_nil, or_false] at hp
          rcases hp with rfl | rfl | rfl | rfl
          · exact hI1
          · exact hI2
          · exact hI3'
          · exact hI4
        · refine ⟨_, _, _, rfl, by assumption, ?_⟩
          rw [List.take_add_one, hg, hms]
          simp
      · rintro m _ h9 tk9 ⟨ws, kk, ms, rfl, hw, hms⟩ F9 N9
        walk_at "mine go"
        refine ret_end (s := s) (new := [(D, _)]) ret (by assumption) (by assumption) (fun p hp => by rw [List.mem_singleton.mp hp]; exact .tail _ (.tail _ (.head _))) ⟨_, _, _, _, rfl, rfl, hw, ?_⟩
        rw [hms, List.take_of_length_le (by rw [hI3.length]; exact Nat.le_refl _), hgs]
        refine kinds_ok hk8 fun k hk => ?_
        rw [hks] at hk
        obtain ⟨n, -, rfl⟩ := List.mem_map.mp hk
        rw [Int.fmod_eq_emod_of_nonneg _ (by decide)]
        omega
end Mine
end

section
open PySem PySem.W PySem.Calls PyProof.Rows
namespace Mine
local macro_rules | `(tactic| k_all) => `(tactic| assumption)
local macro_rules | `(tactic| k_mem) => `(tactic| assumption)

/-- one spot more on the way round: the pieces that are cut off, and the one at hand -/
noncomputable def pcStep (ks : List Int) (st : Int) (acc : List (List Int) × List Int) (w : Nat) : List (List Int) × List Int :=
  if ks.getD ((st + (w : Int)).fmod 8).toNat 0 = 2 then (acc.1 ++ [acc.2], []) else (acc.1, acc.2 ++ [(st + (w : Int)).fmod 8])
noncomputable def pcAt (ks : List Int) (st : Int) (n : Nat) : List (List Int) × List Int := (List.range n).foldl (pcStep ks st) ([], [])
noncomputable def piecesOf (ks : List Int) (st : Int) : List (List Int) := (pcAt ks st 8).1 ++ [(pcAt ks st 8).2]
theorem pcAt_succ (ks : List Int) (st : Int) (n : Nat) : pcAt ks st (n + 1) = pcStep ks st (pcAt ks st n) n := by
  unfold pcAt; rw [List.range_succ, List.foldl_append]; rfl
/-- an object that is a list of these ints -/
noncomputable def Inn (p : Addr × Obj) (l : List Int) : Prop := ∃ ws k, p.2 = listOf (ws : List Value).toArray k ∧ IntsAre ws l
abbrev refsOf' (inn : List (Addr × Obj)) : List Value := inn.map fun p => .ref p.1

theorem item_back {w : World} {A : Around} {E : Value → Shared → Prop} {s : Shared} {value slice : PySem.Expr} {l : Addr} {vs : List Value} {x : Value} {u : Tok} {Q : Value → Shared → Prop} (hl : s.heap.IsList l (vs ++ [x]).toArray) (h : Q x s)
    (hs : subscripted slice false (.ref l) (.int (-1) u) = operate [.ref l, .int (-1) u] (getItem (.ref l) (.int (-1) u))) (hg : ∀ r, letTemporaryGo value (.ref l) r = pure ()) :
    wpAny (model PG w) A (subscriptTail value slice (.ref l) (.int (-1) u)) Q E s :=
  subscriptTail_builtin hl.typeIs slot_list_getitem.lookup (wpAny_getItem_list_neg hl (by decide) (by simp; omega) (by decide) (by
    rw [List.size_toArray, List.length_append, List.getElem?_toArray]
    have e : ((-1 : Int) + ((vs.length + [x].length : Nat) : Int)).toNat = vs.length := by simp; omega
    rw [e, List.getElem?_append_right (Nat.le_refl _), Nat.sub_self]; rfl) h) hs hg
theorem paired_len {α β : Type} {S : α → β → Prop} {l₁ : List α} {l₂ : List β} (h : Paired S l₁ l₂) : l₁.length = l₂.length := (paired_at h).1.symm
theorem pcAt_bound (ks : List Int) (st : Int) : ∀ n : Nat, (pcAt ks st n).1.length ≤ n ∧ (pcAt ks st n).2.length ≤ n
  | 0 => ⟨Nat.le_refl _, Nat.le_refl _⟩
  | n + 1 => by
    have := pcAt_bound ks st n
    rw [pcAt_succ]; unfold pcStep
    split
    · simp; omega
    · simp; omega

set_option maxRecDepth 100000 in
set_option maxHeartbeats 4000000 in
theorem c_pieces {w : World} {mean : ExcName → Option Value} {mg mb : Str → Option Value} {base : Heap} {env : Env} {outer : List Env} {s : Shared} {l : Addr} {vs : List Value} {ks : List Int} {st : Int} {t1 : Tok} {Q E : Value → Shared → Prop}
    (G : Gr w mean mg mb (AX 320 1000 env outer) base (env :: outer) s.heap) (hl : s.heap.IsList l vs.toArray) (hi : IntsAre vs ks) (hn : ks.length = 8) (s0 : 0 ≤ st) (s8 : st < 8)
    (ret : RetTo s Q fun v new => ∃ a k inn, v = .ref a ∧ new = (a, listOf (refsOf' inn).toArray k) :: inn ∧ Paired Inn inn (piecesOf ks st)) : wpAny (model PG w) (AX 320 1000 env outer) (call (.ref 82) [.ref l, .int st t1]) Q E s := by
  w_on
  have B' := G.B
  have X' := G.X
  have T' := G.T
  refine wpAny_call ?_
  refine' call_flat (f := 82) (fun q9 => if q9 = Str.ofString "kinds" then some (Value.ref l) else if q9 = Str.ofString "start" then some (Value.int st t1) else none) G ?k6 ?k7 ?k8 ?k9 ?kB ?kM ?_ ?c2 ?c3 ?c4 ?c5
  (case k6 => k_is)
  (case k7 => k_is)
  (case k8 => exact Nat.le_of_ble_eq_true rfl)
  (case k9 => exact BindsTo.of_eq rfl)
  (case c5 => decide)
  (case kB => exact locs rfl)
  (case kM => (refine binds_2 rfl ?_; decide))
  (case c2 => exact rfl)
  (case c3 => exact rfl)
  (case c4 => exact rfl)
  intro L' h' tk' F'
  have N' : News s.heap L' h' [] := News.nil
  walk_at "mine go"
  (try k_unmd)
  (try k_fold)
  refine For_invV s.heap ?f1 ?f2 ?_ ?f3 ?f4
  (case f1 => with_unfolding_all rfl)
  (case f2 => with_unfolding_all rfl)
  (case f3 => intro _; with_unfolding_all rfl)
  (case f4 => passes_own)
  walk_at "mine go"
  rename_i d0 _ _ a0 _ la _ _ _ h5 tk5 t5 u5 v5 hr F5 N5 kp5
  have N6 : News s.heap L' h5 [(d0, listOf ([] : List Value).toArray 0), (a0, listOf [Value.ref d0].toArray 0)] := fun p hp => N5 p (by
    simp only [List.mem_cons, List.not_mem_nil, or_false] at hp ⊢
    exact hp.symm)
  refine iterJ_range0 (n := 8) (fun i m news => m (Str.ofString "kinds") = some (.ref l) ∧ m (Str.ofString "start") = some (.int st t1) ∧ m (Str.ofString "pieces") = some (.ref a0) ∧ ∃ d wsd kd k rest, news = (d, listOf (wsd : List Value).toArray kd) :: (a0, listOf (refsOf' rest.reverse ++ [Value.ref d]).toArray k) :: rest ∧ @Ne Nat a0 d ∧ (∀ p ∈ rest, p.1 ≠ a0) ∧ (∀ p ∈ rest, p.1 ≠ d) ∧ IntsAre wsd (pcAt ks st i).2 ∧ Paired Inn rest.reverse (pcAt ks st i).1) rfl hr (by decide) F5 N6 ⟨rfl, rfl, rfl, d0, [], 0, 0, [], rfl, (Nat.ne_of_gt la), List.forall_mem_nil _, List.forall_mem_nil _, .nil, .nil⟩ ?_ ?_
  · rintro I it i m _ t h tk hlt ⟨hm1, hm2, hm3, d, wsd, kd, k, rest, rfl, hda, ra, rd, hw, hp⟩ off F N
    have hId : @Ne Nat d I := off _ (.head _)
    have hIa : @Ne Nat a0 I := off _ (.tail _ (.head _))
    have hpb := pcAt_bound ks st i
    have hlen : wsd.length ≤ 100 := by rw [hw.length]; omega
    have hlenr : rest.length ≤ 100 := by have := paired_len hp; rw [List.length_reverse] at this; omega
    have hb1 : 0 ≤ (st + (i : Int)).fmod 8 ∧ (st + (i : Int)).fmod 8 < 8 := by rw [Int.fmod_eq_emod_of_nonneg _ (by decide)]; omega
    walk_at "mine go"
    · rename_i d2 _ F7 N7 l7
      obtain ⟨l71, l72, l73, l74⟩ := l7
      refine append_K F7 N7 (.tail ?n1 (.tail ?n2 (.tail ?n3 (.head ra)))) ?_ ?z
      (case n1 => exact Nat.ne_of_gt l73)
      (case n2 => exact Ne.symm hIa)
      (case n3 => exact Ne.symm hda)
      (case z => simp only [List.size_toArray, List.length_append, List.length_map, List.length_reverse, List.length_cons, List.length_nil]; rw [sizeLine_eq]; omega)
      intro h8 F8 N8
      walk_at "mine go"
      have hst : pcAt ks st (i + 1) = ((pcAt ks st i).1 ++ [(pcAt ks st i).2], []) := by rw [pcAt_succ, pcStep, if_pos ‹_›]
      have hlt2 : ∀ p ∈ rest, p.1 < d2 := by
        have : ∀ (r : List (Addr × Obj)), AllLt d2 r → ∀ p ∈ r, p.1 < d2 := by
          intro r
          induction r with
          | nil => intro _ p hp; cases hp
          | cons q r ih => intro h p hp; rcases List.mem_cons.mp hp with rfl | hp; exact h.1; exact ih h.2 p hp
        exact this rest l74
      refine TurnPost.next (news' := (d2, listOf ([] : List Value).toArray 0) :: (a0, listOf ((refsOf' rest.reverse ++ [Value.ref d]).toArray.push (Value.ref d2)) (k + 1)) :: (d, listOf wsd.toArray kd) :: rest) (by assumption) (by assumption) ?_ ?_ ?_
      · intro p hp
        simp only [List.mem_cons] at hp ⊢
        rcases hp with h | h | h | h | h
        · exact .inr (.inl h)
        · exact .inl h
        · exact .inr (.inr (.inr (.inl h)))
        · exact .inr (.inr (.inl h))
        · exact .inr (.inr (.inr (.inr h)))
      · intro p hp
        simp only [List.mem_cons] at hp
        rcases hp with h | h | h | h
        · subst h; exact Nat.ne_of_gt l71
        · subst h; exact hIa
        · subst h; exact hId
        · exact off p (.tail _ (.tail _ h))
      · refine ⟨hm1, hm2, hm3, d2, [], 0, k + 1, (d, listOf wsd.toArray kd) :: rest, ?_, Nat.ne_of_lt l73, ?_, ?_, ?_, ?_⟩
        · simp [refsOf']
        · intro p hp; rcases List.mem_cons.mp hp with rfl | hp; exact Ne.symm hda; exact ra p hp
        · intro p hp; rcases List.mem_cons.mp hp with rfl | hp; exact Nat.ne_of_lt l72; exact Nat.ne_of_lt (hlt2 p hp)
        · rw [hst]; exact .nil
        · rw [hst, List.reverse_cons]; exact hp.snoc ⟨_, _, rfl, hw⟩
    · refine item_back (vs := refsOf' rest.reverse) (News.isList N (.tail _ (.tail _ (.head _)))) ?_ ?c1 ?c2
      (case c1 => with_unfolding_all rfl)
      (case c2 => intro _; with_unfolding_all rfl)
      walk_at "mine go"
      have hst : pcAt ks st (i + 1) = ((pcAt ks st i).1, (pcAt ks st i).2 ++ [(st + (i : Int)).fmod 8]) := by rw [pcAt_succ, pcStep, if_neg ‹_›]
      refine TurnPost.next (by assumption) (by assumption) (fun p hp => hp) ?_ ?_
      · intro p hp
        simp only [List.mem_cons] at hp
        rcases hp with h | h | h
        · subst h; exact hId
        · subst h; exact hIa
        · exact off p (.tail _ (.tail _ h))
      · refine ⟨hm1, hm2, hm3, d, _, kd + 1, k, rest, congrArg (fun q => (d, listOf q (kd + 1)) :: (a0, listOf (refsOf' rest.reverse ++ [Value.ref d]).toArray k) :: rest) (List.push_toArray wsd _), hda, ra, rd, ?_, ?_⟩
        · rw [hst]; exact hw.append (.cons _ _ .nil)
        · rw [hst]; exact hp
  · rintro m _ h tk ⟨hm1, hm2, hm3, d, wsd, kd, k, rest, rfl, hda, ra, rd, hw, hp⟩ F N
    walk_at "mine go"
    refine ret_end (s := s) (new := (a0, listOf (refsOf' rest.reverse ++ [Value.ref d]).toArray k) :: (rest.reverse ++ [(d, listOf wsd.toArray kd)])) ret (by assumption) (by assumption) ?_ ⟨a0, k, rest.reverse ++ [(d, listOf wsd.toArray kd)], rfl, by simp [refsOf'], ?_⟩
    · intro p hp
      simp only [List.mem_cons, List.mem_append, List.mem_reverse, List.not_mem_nil, or_false] at hp ⊢
      rcases hp with h | h | h
      · exact .inr (.inl h)
      · exact .inr (.inr h)
      · exact .inl h
    · exact hp.snoc ⟨_, _, rfl, hw⟩
end Mine
end

section
open PySem PySem.W PySem.Calls PyProof.Rows
namespace Mine
local macro_rules | `(tactic| walk_at "mine bound") => `(tactic| first | assumption | omega | ((simp only [S_len, List.length_drop, List.length_take] at *); omega))
local macro_rules | `(tactic| walk_at "call builtin:len") => `(tactic| (k_here; (with_reducible show wpAny _ _ (call (Value.builtin "len") [Value.str (S _) _]) _ _ _); refine' lenS ?f1 ?_; (case f1 => walk_at "mine bound"); (try dsimp only)))
local macro_rules | `(tactic| walk_at "truthy str") => `(tactic| (k_here; (with_reducible show wpAny _ _ (PySem.truthy (Value.str (S _) _)) _ _ _); refine' truthyS ?f1 ?_; (case f1 => walk_at "mine bound"); (try dsimp only)))
local macro_rules | `(tactic| walk_at "subscriptTail Name Slice str ref") => `(tactic| (k_here; (with_reducible show wpAny _ _ (subscriptTail _ (Expr.Slice _ _ _ _) (Value.str (S _) _) _) _ _ _); first
  | (refine' sl_from (s := ⟨_, _, _, _, _⟩) ?f1 ?f2 ?f3 ?f4 ?_ ?f5 ?f6; (case f1 => k_asm); (case f2 => k_asm); (case f3 => walk_at "mine bound"); (case f4 => walk_at "mine bound"); (case f5 => with_unfolding_all rfl); (case f6 => intro _; with_unfolding_all rfl); intro h' t' k' F' N'; (try dsimp only))
  | (refine' sl_toneg (s := ⟨_, _, _, _, _⟩) ?f1 ?f2 ?f0 ?f3 ?f4 ?_ ?f5 ?f6; (case f1 => k_asm); (case f2 => k_asm); (case f0 => walk_at "mine bound"); (case f3 => walk_at "mine bound"); (case f4 => walk_at "mine bound"); (case f5 => with_unfolding_all rfl); (case f6 => intro _; with_unfolding_all rfl); intro h' t' k' F' N'; (try dsimp only))
  | (refine' sl_all (s := ⟨_, _, _, _, _⟩) ?f1 ?f2 ?f4 ?_ ?f5 ?f6; (case f1 => k_asm); (case f2 => k_asm); (case f4 => walk_at "mine bound"); (case f5 => with_unfolding_all rfl); (case f6 => intro _; with_unfolding_all rfl); intro h' t' k' F' N'; (try dsimp only))))
local macro_rules | `(tactic| walk_at "subscriptTail Name Name str int") => `(tactic| walk_at "mine item")
local macro_rules | `(tactic| walk_at "subscriptTail Name BinOp str int") => `(tactic| walk_at "mine item")
local macro_rules | `(tactic| walk_at "subscriptTail") => `(tactic| (k_here; (with_reducible show wpAny _ _ (subscriptTail _ _ (Value.str (S _) _) (Value.int _ _)) _ _ _); walk_at "mine item"))
local macro_rules | `(tactic| walk_at "mine item") => `(tactic| (k_here; (with_reducible show wpAny _ _ (subscriptTail _ _ (Value.str (S _) _) (Value.int _ _)) _ _ _); first
  | (refine' it_at ?f1 ?f2 ?_ ?f5 ?f6; (case f1 => walk_at "mine bound"); (case f2 => walk_at "mine bound"); (case f5 => with_unfolding_all rfl); (case f6 => intro _; with_unfolding_all rfl); (try dsimp only))
  | (refine' it_neg ?f1 ?f2 ?_ ?f5 ?f6; (case f1 => walk_at "mine bound"); (case f2 => walk_at "mine bound"); (case f5 => with_unfolding_all rfl); (case f6 => intro _; with_unfolding_all rfl); (try dsimp only))))
local macro_rules | `(tactic| walk_at "ite") => `(tactic| first | (refine ite_pos (by simp only [bne_iff_ne]; assumption) ?_) | (refine ite_neg (by simp only [bne_iff_ne, ne_eq, Decidable.not_not]; assumption) ?_))

/-- the price of one sign for another, by their numbers -/
noncomputable def subN (c d : Nat) : Int := subC (S [c]) (S [d])

theorem getD_rev {x : List Nat} {q : Nat} (h : q < x.length) : x.getD (x.length - 1 - q) 0 = x.reverse.getD q 0 := by
  rw [List.getD_eq_getElem?_getD, List.getD_eq_getElem?_getD, List.getElem?_reverse h]

theorem cp_comm {α : Type} [BEq α] [LawfulBEq α] : ∀ (a b : List α), cp a b = cp b a
  | [], [] => rfl
  | [], _ :: _ => rfl
  | _ :: _, [] => rfl
  | a :: as, b :: bs => by
    show (if (a == b) = true then cp as bs + 1 else 0) = if (b == a) = true then cp bs as + 1 else 0
    rw [cp_comm as bs]
    by_cases h : a = b
    · subst h; rfl
    · rw [if_neg (by simpa using h), if_neg (by simpa using Ne.symm h)]

theorem drop_ne {l : List Nat} {p : Nat} (h : (((l.drop p).length : Nat) : Int) ≠ 0) : p < l.length := by rw [List.length_drop] at h; omega
theorem drop_eq {l : List Nat} {p : Nat} (h : (((l.drop p).length : Nat) : Int) = 0) (g : p < l.length) : False := by rw [List.length_drop] at h; omega
theorem take_ne {l : List Nat} {q : Nat} (h : (((l.take (l.length - q)).length : Nat) : Int) ≠ 0) : q < l.length := by rw [List.length_take] at h; omega
theorem take_eq {l : List Nat} {q : Nat} (h : (((l.take (l.length - q)).length : Nat) : Int) = 0) (g : q < l.length) : False := by rw [List.length_take] at h; omega
theorem whole_ne {l : List Nat} {q : Nat} (h : ((l.length : Nat) : Int) ≠ 0) (e : -(q : Int) = 0) : q < l.length := by omega
theorem whole_eq {l : List Nat} {q : Nat} (h : ((l.length : Nat) : Int) = 0) (g : q < l.length) : False := by omega
theorem cp_next {a b p c : Nat} (hs : a = b + 1) (h : a + p = c) : b + (p + 1) = c := by omega
theorem neg_next (q : Nat) : -(q : Int) - 1 = -((q + 1 : Nat) : Int) := by omega
set_option maxRecDepth 100000 in
set_option maxHeartbeats 4000000 in
theorem c_lev {w : World} {mean : ExcName → Option Value} {mg mb : Str → Option Value} {base : Heap} {env : Env} {outer : List Env} {s : Shared} {x y : List Nat} {mc : Int} {t1 t2 t3 : Tok} {Q E : Value → Shared → Prop}
    (G : Gr w mean mg mb (AX 320 1000 env outer) base (env :: outer) s.heap) (hx : x.length ≤ 8) (hy : y.length ≤ 8)
    (ret : RetTo s Q fun v new => ∃ t, v = .int (lev subN 0 mc x y) t ∧ new = []) : wpAny (model PG w) (AX 320 1000 env outer) (call (.ref 56) [.str (S x) t1, .str (S y) t2, .int mc t3]) Q E s := by
  w_on
  have B' := G.B
  have X' := G.X
  have T' := G.T
  refine wpAny_call ?_
  refine' call_flat (f := 56) (fun q9 => if q9 = Str.ofString "a" then some (Value.str (S x) t1) else if q9 = Str.ofString "b" then some (Value.str (S y) t2) else if q9 = Str.ofString "max_cost" then some (Value.int mc t3) else none) G ?k6 ?k7 ?k8 ?k9 ?kB ?kM ?_ ?c2 ?c3 ?c4 ?c5
  (case k6 => k_is)
  (case k7 => k_is)
  (case k8 => exact Nat.le_of_ble_eq_true rfl)
  (case k9 => exact BindsTo.of_eq rfl)
  (case c5 => decide)
  (case kB => exact locs rfl)
  (case kM => (refine binds_3 rfl ?_ ?_ ?_ <;> decide))
  (case c2 => exact rfl)
  (case c3 => exact rfl)
  (case c4 => exact rfl)
  intro L' h' tk' F'
  have N' : News s.heap L' h' [] := News.nil
  walk_at "mine go"
  · have he := ‹(S x == S y) = true›
    rw [S_beq] at he
    exact ret_end (s := s) (new := []) ret (by assumption) (by assumption) (List.forall_mem_nil _) ⟨_, congrArg (Value.int · _) (by rw [lev, if_pos he]), rfl⟩
  have he := ‹(S x == S y) = false›
  rw [S_beq] at he
  (try k_unmd)
  (try k_fold)
  refine while_cut (h₀ := s.heap) (L := L') (n₀ := x.length)
    (fun n m news => news = [] ∧ (∃ t, m (Str.ofString "a") = some (.str (S x) t)) ∧ (∃ t, m (Str.ofString "b") = some (.str (S y) t)) ∧ (∃ t, m (Str.ofString "max_cost") = some (.int mc t)) ∧ ∃ p : Nat, ∃ t, m (Str.ofString "pre") = some (.int (p : Int) t) ∧ p ≤ x.length ∧ p ≤ y.length ∧ cp (x.drop p) (y.drop p) + p = cp x y ∧ n = x.length - p)
    (fun m news => news = [] ∧ (∃ t, m (Str.ofString "a") = some (.str (S x) t)) ∧ (∃ t, m (Str.ofString "b") = some (.str (S y) t)) ∧ (∃ t, m (Str.ofString "max_cost") = some (.int mc t)) ∧ ∃ t, m (Str.ofString "pre") = some (.int ((cp x y : Nat) : Int) t))
    (by assumption) (by assumption) ⟨rfl, ⟨_, rfl⟩, ⟨_, rfl⟩, ⟨_, rfl⟩, 0, _, rfl, Nat.zero_le _, Nat.zero_le _, rfl, rfl⟩ ?_ ?_ ?hE
  (case hE => passes_own)
  · rintro n m _ h₁ tk₁ F1 N1 ⟨rfl, ⟨ta, hma⟩, ⟨tb, hmb⟩, ⟨tc, hmc⟩, p, tp, hmp, hpx, hpy, hcp, rfl⟩
    walk_at "mine go"
    · have hq := ‹(S [x.getD p 0] == S [y.getD p 0]) = true›
      have h1 := ‹((x.drop p).length : Int) ≠ 0›
      have h2 := ‹((y.drop p).length : Int) ≠ 0›
      rw [S_beq] at hq
      have b1 := drop_ne h1
      have b2 := drop_ne h2
      have hq' : x.getD p 0 = y.getD p 0 := by simpa using hq
      have hs := cp_step 0 (a := x) (b := y) (p := p) b1 b2 hq'
      refine WhileStep2.go (n' := x.length - (p + 1)) (by assumption) (by assumption) (Nat.sub_lt_sub_left b1 (Nat.lt_succ_self p)) ?_
      exact ⟨rfl, ⟨_, hma⟩, ⟨_, hmb⟩, ⟨_, hmc⟩, p + 1, _, rfl, b1, b2, cp_next hs hcp, rfl⟩
    all_goals
      refine LoopEnd.mk (by assumption) (by assumption) ?_
      refine ⟨rfl, ⟨_, hma⟩, ⟨_, hmb⟩, ⟨_, hmc⟩, tp, ?_⟩
      have hz : cp (x.drop p) (y.drop p) = 0 := cp_stop 0 (by
        rintro ⟨g1, g2, g3⟩
        first | exact drop_eq (by assumption) g1 | exact drop_eq (by assumption) g2 | skip
        all_goals simp only [List.length_drop, S_beq] at *
        all_goals first | exact drop_eq (by assumption) g1 | exact drop_eq (by assumption) g2 | omega | (rw [g3] at *; simp_all))
      rw [hz, Nat.zero_add] at hcp
      rw [← hcp]; exact hmp
  · rintro m _ h₁ tk₁ F1 N1 ⟨rfl, ⟨ta, hma⟩, ⟨tb, hmb⟩, ⟨tc, hmc⟩, tp, hmp⟩
    have hcx := cp_le x y
    walk_at "mine go"
    generalize hX : List.drop (cp x y) x = x1 at *
    generalize hY : List.drop (cp x y) y = y1 at *
    have hx1 : x1.length ≤ 8 := by rw [← hX, List.length_drop]; omega
    have hy1 : y1.length ≤ 8 := by rw [← hY, List.length_drop]; omega
    (try k_unmd)
    (try k_fold)
    refine while_cut (h₀ := s.heap) (L := L') (n₀ := x1.length)
      (fun n m news => news = [] ∧ (∃ t, m (Str.ofString "a") = some (.str (S x1) t)) ∧ (∃ t, m (Str.ofString "b") = some (.str (S y1) t)) ∧ (∃ t, m (Str.ofString "max_cost") = some (.int mc t)) ∧ ∃ q : Nat, ∃ t, m (Str.ofString "post") = some (.int (-(q : Int)) t) ∧ q ≤ x1.length ∧ q ≤ y1.length ∧ cp (x1.reverse.drop q) (y1.reverse.drop q) + q = cp x1.reverse y1.reverse ∧ n = x1.length - q)
      (fun m news => news = [] ∧ (∃ t, m (Str.ofString "a") = some (.str (S x1) t)) ∧ (∃ t, m (Str.ofString "b") = some (.str (S y1) t)) ∧ (∃ t, m (Str.ofString "max_cost") = some (.int mc t)) ∧ ∃ t, m (Str.ofString "post") = some (.int (-((cp x1.reverse y1.reverse : Nat) : Int)) t))
      (by assumption) (by assumption) ?hJ ?_ ?_ ?hE
    (case hJ => exact ⟨rfl, ⟨_, rfl⟩, ⟨_, rfl⟩, ⟨tc, hmc⟩, 0, _, rfl, Nat.zero_le _, Nat.zero_le _, rfl, rfl⟩)
    (case hE => passes_own)
    · clear hma hmb hmc hmp
      rintro n m _ h₁ tk₁ F1 N1 ⟨rfl, ⟨ta, hma⟩, ⟨tb, hmb⟩, ⟨tc, hmc⟩, q, tp, hmp, hpx, hpy, hcp, rfl⟩
      walk_at "mine go"
      all_goals first
        | (have hq := ‹(S [x1.getD (x1.length - 1 - q) 0] == S [y1.getD (y1.length - 1 - q) 0]) = true›
           have b1 : q < x1.length := by first | exact take_ne (by assumption) | exact whole_ne (by assumption) (by assumption) | (simp only [List.length_take] at *; omega)
           have b2 : q < y1.length := by first | exact take_ne (by assumption) | exact whole_ne (by assumption) (by assumption) | (simp only [List.length_take] at *; omega)
           rw [S_beq, getD_rev b1, getD_rev b2] at hq
           have hq' : x1.reverse.getD q 0 = y1.reverse.getD q 0 := by simpa using hq
           have hs := cp_step 0 (a := x1.reverse) (b := y1.reverse) (p := q) (by rw [List.length_reverse]; exact b1) (by rw [List.length_reverse]; exact b2) hq'
           refine WhileStep2.go (n' := x1.length - (q + 1)) (by assumption) (by assumption) (Nat.sub_lt_sub_left b1 (Nat.lt_succ_self q)) ?_
           exact ⟨rfl, ⟨_, hma⟩, ⟨_, hmb⟩, ⟨_, hmc⟩, q + 1, _, congrArg (fun z => some (Value.int z _)) (by first | exact neg_next q | omega), b1, b2, cp_next hs hcp, rfl⟩)
        | (refine LoopEnd.mk (by assumption) (by assumption) ?_
           refine ⟨rfl, ⟨_, hma⟩, ⟨_, hmb⟩, ⟨_, hmc⟩, tp, ?_⟩
           have hz : cp (x1.reverse.drop q) (y1.reverse.drop q) = 0 := cp_stop 0 (by
             rintro ⟨g1, g2, g3⟩
             rw [List.length_reverse] at g1 g2
             rw [← getD_rev g1, ← getD_rev g2] at g3
             first
               | exact take_eq (by assumption) g1
               | exact whole_eq (by assumption) g1
               | exact whole_eq (by assumption) g2
               | exact take_eq (by assumption) g2
               | (simp only [List.length_take] at *; omega)
               | (have hq := ‹(S [x1.getD (x1.length - 1 - q) 0] == S [y1.getD (y1.length - 1 - q) 0]) = false›
                  rw [S_beq, g3] at hq
                  simp at hq))
           rw [hz, Nat.zero_add] at hcp
           rw [← hcp]; exact hmp)
    · clear hma hmb hmc hmp
      rintro m _ h₁ tk₁ F1 N1 ⟨rfl, ⟨ta, hma⟩, ⟨tb, hmb⟩, ⟨tc, hmc⟩, tp, hmp⟩
      have hcx := cp_le x1.reverse y1.reverse
      rw [List.length_reverse, List.length_reverse] at hcx
      (try k_unmd)
      k_unfold
      dsimp only
      walk1
      (try k_unmd)
      (try k_fold)
      refine stmt_cut (h₀ := s.heap) (L := L') (fun m news => news = [] ∧ (∃ t, m (Str.ofString "a") = some (.str (S (cutEnd x1 y1)) t)) ∧ (∃ t, m (Str.ofString "b") = some (.str (S y1) t)) ∧ (∃ t, m (Str.ofString "max_cost") = some (.int mc t)) ∧ ∃ t, m (Str.ofString "post") = some (.int (-((cp x1.reverse y1.reverse : Nat) : Int)) t)) ?_ ?_
      · walk_at "mine go"
        · refine LoopEnd.mk (by assumption) (by assumption) ?_
          exact ⟨rfl, ⟨_, rfl⟩, ⟨_, hmb⟩, ⟨_, hmc⟩, _, hmp⟩
        · refine LoopEnd.mk (by assumption) (by assumption) ?_
          have hz : cp x1.reverse y1.reverse = 0 := by omega
          have hc : cutEnd x1 y1 = x1 := by unfold cutEnd; rw [hz, Nat.sub_zero, List.take_length]
          rw [hc]
          exact ⟨rfl, ⟨_, rfl⟩, ⟨_, hmb⟩, ⟨_, hmc⟩, _, hmp⟩
      clear hma hmb hmc hmp
      rintro m _ h₁ tk₁ F1 N1 ⟨rfl, ⟨ta, hma⟩, ⟨tb, hmb⟩, ⟨tc, hmc⟩, tp, hmp⟩
      (try k_unmd)
      k_unfold
      dsimp only
      walk1
      (try k_unmd)
      (try k_fold)
      refine stmt_cut (h₀ := s.heap) (L := L') (fun m news => news = [] ∧ (∃ t, m (Str.ofString "a") = some (.str (S (cutEnd x1 y1)) t)) ∧ (∃ t, m (Str.ofString "b") = some (.str (S (cutEnd y1 x1)) t)) ∧ (∃ t, m (Str.ofString "max_cost") = some (.int mc t))) ?_ ?_
      · have hcy : cp y1.reverse x1.reverse = cp x1.reverse y1.reverse := cp_comm _ _
        walk_at "mine go"
        · refine LoopEnd.mk (by assumption) (by assumption) ?_
          have hc : cutEnd y1 x1 = y1.take (y1.length - cp x1.reverse y1.reverse) := by unfold cutEnd; rw [hcy]
          rw [hc]
          exact ⟨rfl, ⟨_, hma⟩, ⟨_, rfl⟩, ⟨_, hmc⟩⟩
        · refine LoopEnd.mk (by assumption) (by assumption) ?_
          have hz : cp x1.reverse y1.reverse = 0 := by omega
          have hc : cutEnd y1 x1 = y1 := by unfold cutEnd; rw [hcy, hz, Nat.sub_zero, List.take_length]
          rw [hc]
          exact ⟨rfl, ⟨_, hma⟩, ⟨_, rfl⟩, ⟨_, hmc⟩⟩
      clear hma hmb hmc hmp
      rintro m _ h₁ tk₁ F1 N1 ⟨rfl, ⟨ta, hma⟩, ⟨tb, hmb⟩, ⟨tc, hmc⟩⟩
      have hT : lev subN 0 mc x y = levCore subN 0 mc (cutEnd x1 y1) (cutEnd y1 x1) := by
        unfold lev; rw [if_neg (by rw [he]; decide), hX, hY]
      have hxl : (cutEnd x1 y1).length ≤ 8 := by unfold cutEnd; rw [List.length_take]; omega
      have hyl : (cutEnd y1 x1).length ≤ 8 := by unfold cutEnd; rw [List.length_take]; omega
      generalize cutEnd x1 y1 = x2 at *
      generalize cutEnd y1 x1 = y2 at *
      rw [hT] at ret
      clear hT hX hY hcx he
      (try k_unmd)
      k_unfold
      dsimp only
      walk1
      (try k_unmd)
      (try k_fold)
      refine stmt_cutR (h₀ := s.heap) (L := L') (fun m news => news = [] ∧ (∃ t, m (Str.ofString "a") = some (.str (S x2) t)) ∧ (∃ t, m (Str.ofString "b") = some (.str (S y2) t)) ∧ (∃ t, m (Str.ofString "max_cost") = some (.int mc t)) ∧ x2.length ≠ 0 ∧ y2.length ≠ 0) ?_ ?_
      · walk_at "mine go"
        · have h1 := ‹((x2.length : Nat) : Int) ≠ 0›
          have h2 := ‹((y2.length : Nat) : Int) ≠ 0›
          refine Or.inr (LoopEnd.mk (by assumption) (by assumption) ?_)
          exact ⟨rfl, ⟨_, hma⟩, ⟨_, hmb⟩, ⟨_, hmc⟩, by omega, by omega⟩
        all_goals
          refine Or.inl ⟨_, rfl, ?_⟩
          refine ret_end (s := s) (new := []) ret (by assumption) (by assumption) (List.forall_mem_nil _) ⟨_, congrArg (Value.int · _) ?_, rfl⟩
          rw [levCore, if_pos (by omega)]
      clear hma hmb hmc
      rintro m _ h₁ tk₁ F1 N1 ⟨rfl, ⟨ta, hma⟩, ⟨tb, hmb⟩, ⟨tc, hmc⟩, hx0, hy0⟩
      (try k_unmd)
      k_unfold
      dsimp only
      walk1
      (try k_unmd)
      (try k_fold)
      refine stmt_cut (h₀ := s.heap) (L := L') (fun m news => news = [] ∧ (∃ t, m (Str.ofString "a") = some (.str (S x2) t)) ∧ (∃ t, m (Str.ofString "b") = some (.str (S y2) t)) ∧ (∃ t, m (Str.ofString "max_cost") = some (.int mc t))) ?_ ?_
      · walk_at "mine go"
        refine LoopEnd.mk (by assumption) (by assumption) ?_
        exact ⟨rfl, ⟨_, hma⟩, ⟨_, hmb⟩, ⟨_, hmc⟩⟩
      clear hma hmb hmc
      rintro m _ h₁ tk₁ F1 N1 ⟨rfl, ⟨ta, hma⟩, ⟨tb, hmb⟩, ⟨tc, hmc⟩⟩
      (try k_unmd)
      k_unfold
      dsimp only
      walk1
      (try k_unmd)
      (try k_fold)
      refine stmt_cut (h₀ := s.heap) (L := L') (fun m news => news = [] ∧ (∃ t, m (Str.ofString "max_cost") = some (.int mc t)) ∧ ∃ a3 b3 : List Nat, (∃ t, m (Str.ofString "a") = some (.str (S a3) t)) ∧ (∃ t, m (Str.ofString "b") = some (.str (S b3) t)) ∧ a3.length ≤ 8 ∧ b3.length ≤ 8 ∧ a3.length ≠ 0 ∧ levCore subN 0 mc x2 y2 = levTab subN 0 mc a3 b3) ?_ ?_
      · walk_at "mine go"
        · refine LoopEnd.mk (by assumption) News.nil ?_
          exact ⟨rfl, ⟨_, hmc⟩, y2, x2, ⟨_, rfl⟩, ⟨_, rfl⟩, hyl, hxl, hy0, by rw [levCore, if_neg (by omega), if_pos ‹_›]⟩
        · refine LoopEnd.mk (by assumption) News.nil ?_
          exact ⟨rfl, ⟨_, hmc⟩, x2, y2, ⟨_, hma⟩, ⟨_, hmb⟩, hxl, hyl, hx0, by rw [levCore, if_neg (by omega), if_neg ‹_›]⟩
      clear hma hmb hmc
      rintro m _ h₁ tk₁ F1 N1 ⟨rfl, ⟨tc, hmc⟩, a3, b3, ⟨ta, hma⟩, ⟨tb, hmb⟩, ha8, hb8, ha0, hT⟩
      rw [hT] at ret
      clear hT
      (try k_unmd)
      k_unfold
      dsimp only
      walk1
      walk_at "mine go"
      · refine ret_end (s := s) (new := []) ret (by assumption) (by assumption) (List.forall_mem_nil _) ⟨_, congrArg (Value.int · _) ?_, rfl⟩
        rw [levTab, if_pos (by omega)]
      have hng := ‹¬ mc < _›
      have hT : levTab subN 0 mc a3 b3 = outerL subN 0 mc a3 b3 0 (row0 a3.length) 0 := by rw [levTab, if_neg (by omega)]
      rw [hT] at ret
      clear hT hng
      refine list_range2 rfl (by assumption) (by assumption) (by assumption) ha8 ?_
      intro D k ws h₂ tk₂ F2 N2 _ hI2
      dsimp only
      walk_at "mine go"
      (try k_unmd)
      (try k_fold)
      refine For_invV s.heap ?f1 ?f2 ?_ ?f3 ?f4
      (case f1 => with_unfolding_all rfl)
      (case f2 => with_unfolding_all rfl)
      (case f3 => intro _; with_unfolding_all rfl)
      (case f4 => passes_own)
      walk_at "mine go"
      rename_i h5 tk5 t5 u5 v5 hr5 F5 N5 kp5
      have hrl : (row0 a3.length).length = a3.length := by simp [row0]
      refine iterJ_range0 (n := b3.length) (fun i m news => (∃ t, m (Str.ofString "a") = some (.str (S a3) t)) ∧ (∃ t, m (Str.ofString "b") = some (.str (S b3) t)) ∧ (∃ t, m (Str.ofString "max_cost") = some (.int mc t)) ∧ m (Str.ofString "row") = some (.ref D) ∧ ∃ res row, (∃ t, m (Str.ofString "result") = some (.int res t)) ∧ (∃ kk ws, news = [(D, listOf (ws : List Value).toArray kk)] ∧ IntsAre ws row) ∧ row.length = a3.length ∧ outerL subN 0 mc a3 (b3.drop i) i row res = outerL subN 0 mc a3 b3 0 (row0 a3.length) 0) rfl hr5 (by omega) F5 N5 ?hj ?_ ?_
      (case hj => exact ⟨⟨_, hma⟩, ⟨_, hmb⟩, ⟨_, hmc⟩, rfl, _, _, ⟨_, rfl⟩, ⟨_, _, rfl, hI2⟩, hrl, rfl⟩)
      · clear hma hmb hmc
        rintro I it i m _ t h tk hlt ⟨⟨ta, hma⟩, ⟨tb, hmb⟩, ⟨tc, hmc⟩, hmr, res, row, ⟨tr, hms⟩, ⟨kk, ws, rfl, hw⟩, hrow, hT⟩ off F N
        have hI : @Ne Nat D I := off _ (.head _)
        have hdrop : b3.drop i = b3.getD i 0 :: b3.drop (i + 1) := by
          rw [List.drop_eq_getElem_cons hlt]; simp [List.getD_eq_getElem?_getD, hlt]
        rw [hdrop] at hT
        walk_at "mine go"
        (try k_unmd)
        (try k_fold)
        refine For_invV s.heap ?f1 ?f2 ?_ ?f3 ?f4
        (case f1 => with_unfolding_all rfl)
        (case f2 => with_unfolding_all rfl)
        (case f3 => intro _; with_unfolding_all rfl)
        (case f4 => passes_own)
        walk_at "mine go"
        rename_i h6 tk6 t6 u6 v6 hr6 F6 N6 kp6
        refine iterJ_range0 (n := a3.length) (fun j m news => (∃ t, m (Str.ofString "a") = some (.str (S a3) t)) ∧ (∃ t, m (Str.ofString "b") = some (.str (S b3) t)) ∧ (∃ t, m (Str.ofString "max_cost") = some (.int mc t)) ∧ m (Str.ofString "row") = some (.ref D) ∧ (∃ t, m (Str.ofString "bchar") = some (.str (S [b3.getD i 0]) t)) ∧
          (∃ t, m (Str.ofString "distance") = some (.int (innerAt subN 0 (b3.getD i 0) a3 row ((i : Int) * 2) j).1 t)) ∧ (∃ t, m (Str.ofString "result") = some (.int (innerAt subN 0 (b3.getD i 0) a3 row ((i : Int) * 2) j).2.1 t)) ∧ (∃ t, m (Str.ofString "minimum") = some (.int (innerAt subN 0 (b3.getD i 0) a3 row ((i : Int) * 2) j).2.2.1 t)) ∧
          ∃ kk ws, news = [(I, it), (D, listOf (ws : List Value).toArray kk)] ∧ IntsAre ws (innerAt subN 0 (b3.getD i 0) a3 row ((i : Int) * 2) j).2.2.2) rfl hr6 (by omega) F6 N6 ?hj ?_ ?_
        (case hj => exact ⟨⟨_, hma⟩, ⟨_, hmb⟩, ⟨_, hmc⟩, hmr, ⟨_, rfl⟩, ⟨_, rfl⟩, ⟨_, rfl⟩, ⟨_, rfl⟩, _, _, rfl, hw⟩)
        · clear hma hmb hmc hmr hms hw F N
          rintro I2 it2 j m _ t h tk hj ⟨⟨ta, hma⟩, ⟨tb, hmb⟩, ⟨tc, hmc⟩, hmr, ⟨tbc, hmbc⟩, ⟨td, hmd⟩, ⟨tr, hmres⟩, ⟨tm, hmm⟩, kk, ws, rfl, hw⟩ off2 F N
          have hI2 : @Ne Nat I I2 := off2 _ (.head _)
          have hI3 : @Ne Nat D I2 := off2 _ (.tail _ (.head _))
          have hst := innerAt_succ subN 0 (b3.getD i 0) a3 row ((i : Int) * 2) j
          have hlen := innerAt_len subN 0 (b3.getD i 0) a3 row ((i : Int) * 2) j
          rw [hrow] at hlen
          generalize innerAt subN 0 (b3.getD i 0) a3 row ((i : Int) * 2) j = st at *
          generalize innerAt subN 0 (b3.getD i 0) a3 row ((i : Int) * 2) (j + 1) = st' at *
          walk_at "mine go"
          refine' call_use (dp := 400) (un := 2000) ?u1 ?u2 ?u3 ?u4 ?u5 rfl rfl rfl ?u6 ?u7 rfl rfl (fun G ret => c_subst G ?u8 ?u9 ret) ?_
          (case u1 => k_asm)
          (case u2 => k_asm)
          (case u3 => k_asm)
          (case u4 => k_asm)
          (case u5 => k_asm)
          (case u6 => exact Nat.le_of_ble_eq_true rfl)
          (case u7 => exact Nat.le_of_ble_eq_true rfl)
          (case u8 => exact Nat.le_refl 1)
          (case u9 => exact Nat.le_refl 1)
          rintro _ h7 tk7 _ F7 N7 _ _ ⟨t7, rfl, rfl⟩
          dsimp only [List.nil_append] at N7
          dsimp only
          walk_at "mine go"
          all_goals
            subst hst
            refine TurnPost.next (by assumption) (by assumption) (fun p hp => hp) (fun p hp => ?_) ?_
            · simp only [List.mem_cons, List.not_mem_nil, or_false] at hp
              rcases hp with rfl | rfl
              · exact hI2
              · exact hI3
          · exact ⟨⟨_, hma⟩, ⟨_, hmb⟩, ⟨_, hmc⟩, hmr, ⟨_, hmbc⟩, ⟨_, rfl⟩, ⟨_, rfl⟩, ⟨_, congrArg (fun z => some (Value.int z _)) (if_pos ‹_›).symm⟩, _, _, rfl, by assumption⟩
          · exact ⟨⟨_, hma⟩, ⟨_, hmb⟩, ⟨_, hmc⟩, hmr, ⟨_, hmbc⟩, ⟨_, rfl⟩, ⟨_, rfl⟩, ⟨_, hmm.trans (congrArg (fun z => some (Value.int z _)) (if_neg ‹_›).symm)⟩, _, _, rfl, by assumption⟩
        · clear hma hmb hmc hmr hms hw F N
          rintro m _ h tk ⟨⟨ta, hma⟩, ⟨tb, hmb⟩, ⟨tc, hmc⟩, hmr, ⟨tbc, hmbc⟩, ⟨td, hmd⟩, ⟨tr, hmres⟩, ⟨tm, hmm⟩, kk, ws, rfl, hw⟩ F N
          have hlen := innerAt_len subN 0 (b3.getD i 0) a3 row ((i : Int) * 2) a3.length
          rw [hrow] at hlen
          walk_at "mine go"
          · have hg := ‹mc < _›
            refine ret_end (s := s) (new := []) ret (by assumption) (by assumption) (List.forall_mem_nil _) ⟨_, congrArg (Value.int · _) ?_, rfl⟩
            rw [← hT, outerL, if_pos hg]
          · have hg := ‹¬ mc < _›
            rw [outerL, if_neg hg] at hT
            refine TurnPost.next (by assumption) (by assumption) (fun p hp => hp) (fun p hp => by rw [List.mem_singleton.mp hp]; exact hI) ?_
            exact ⟨⟨_, hma⟩, ⟨_, hmb⟩, ⟨_, hmc⟩, hmr, _, _, ⟨_, hmres⟩, ⟨_, _, rfl, hw⟩, hlen, hT⟩
      · clear hma hmb hmc
        rintro m _ h tk ⟨⟨ta, hma⟩, ⟨tb, hmb⟩, ⟨tc, hmc⟩, hmr, res, row, ⟨tr, hms⟩, ⟨kk, ws, rfl, hw⟩, hrow, hT⟩ F N
        walk_at "mine go"
        refine ret_end (s := s) (new := []) ret (by assumption) (by assumption) (List.forall_mem_nil _) ⟨_, congrArg (Value.int · _) ?_, rfl⟩
        rw [← hT, List.drop_length]; rfl
end Mine
end

section
open PySem PySem.W PySem.Calls PyProof.Rows
namespace Mine

theorem paired3 {inn : List (Addr × Obj)} {q0 q1 q2 : List Int} (h : Paired Inn inn [q0, q1, q2]) : ∃ p0 p1 p2, inn = [p0, p1, p2] ∧ Inn p0 q0 ∧ Inn p1 q1 ∧ Inn p2 q2 := by
  cases h with
  | cons h0 h => cases h with
    | cons h1 h => cases h with
      | cons h2 h => cases h with
        | nil => exact ⟨_, _, _, rfl, h0, h1, h2⟩

set_option maxRecDepth 100000 in
set_option maxHeartbeats 4000000 in
theorem c_stood3 {w : World} {mean : ExcName → Option Value} {mg mb : Str → Option Value} {base : Heap} {env : Env} {outer : List Env} {s : Shared} {a : Addr} {inn : List (Addr × Obj)} {q0 q1 q2 : List Int} {st : Int} {t1 : Tok} {Q E : Value → Shared → Prop}
    (G : Gr w mean mg mb (AX 320 1000 env outer) base (env :: outer) s.heap) (hl : s.heap.IsList a (refsOf' inn).toArray) (hin : ∀ p ∈ inn, s.heap.get? p.1 = some p.2) (hp : Paired Inn inn [q0, q1, q2]) (hq0 : q0.length ≤ 8) (hq2 : q2.length ≤ 8)
    (ret : RetTo s Q fun v new => ∃ b n ws, v = .ref b ∧ new = [(b, listOf (ws : List Value).toArray n)] ∧ IntsAre ws (q0 ++ q2)) : wpAny (model PG w) (AX 320 1000 env outer) (call (.ref 92) [.ref a, .int st t1]) Q E s := by
  w_on
  have B' := G.B
  have X' := G.X
  have T' := G.T
  refine wpAny_call ?_
  refine' call_flatC (f := 92) G ?k6 ?k7 ?k8 ?k9 ?kB ?kD ?_ ?c2 ?c3 ?c4
  (case k6 => k_is)
  (case k7 => k_is)
  (case k8 => exact Nat.le_of_ble_eq_true rfl)
  (case k9 => exact BindsTo.of_eq rfl)
  (case kB => exact rfl)
  (case kD => decide +kernel)
  (case c2 => exact rfl)
  (case c3 => exact rfl)
  (case c4 => exact rfl)
  intro L' h' tk' cells' F' N' Y'
  k_cells Y'
  dsimp only
  obtain ⟨⟨a0, o0⟩, ⟨a1, o1⟩, ⟨a2, o2⟩, rfl, ⟨w0, k0, e0, i0⟩, ⟨w1, k1, e1, i1⟩, ⟨w2, k2, e2, i2⟩⟩ := paired3 hp
  have l0 : s.heap.IsList a0 w0.toArray := ⟨_, hin _ (.head _), by rw [e0], k0, by rw [e0]⟩
  have l2 : s.heap.IsList a2 w2.toArray := ⟨_, hin _ (.tail _ (.tail _ (.head _))), by rw [e2], k2, by rw [e2]⟩
  have hl' : s.heap.IsList a #[Value.ref a0, Value.ref a1, Value.ref a2] := hl
  clear hl
  walk_at "mine go"
  · exact ret_end (s := s) (new := [(_, _)]) ret (by assumption) (by assumption) (fun p hp => by rw [List.mem_singleton.mp hp]; exact .head _) ⟨_, _, _, rfl, rfl, by assumption⟩
  · exfalso
    have hc := ‹(_ : Int) ≠ 3›
    exact hc rfl

set_option maxRecDepth 100000 in
set_option maxHeartbeats 4000000 in
theorem c_stood1 {w : World} {mean : ExcName → Option Value} {mg mb : Str → Option Value} {base : Heap} {env : Env} {outer : List Env} {s : Shared} {a : Addr} {vs : List Value} {st : Int} {t1 : Tok} {Q E : Value → Shared → Prop}
    (G : Gr w mean mg mb (AX 320 1000 env outer) base (env :: outer) s.heap) (hl : s.heap.IsList a vs.toArray) (hv3 : vs.length ≠ 3) (hv9 : vs.length ≤ 9)
    (ret : RetTo s Q fun v new => ∃ b n ws, v = .ref b ∧ new = [(b, listOf (ws : List Value).toArray n)] ∧ IntsAre ws ((List.range 8).map fun (k : Nat) => (st + (k : Int)).fmod 8)) : wpAny (model PG w) (AX 320 1000 env outer) (call (.ref 92) [.ref a, .int st t1]) Q E s := by
  w_on
  have B' := G.B
  have X' := G.X
  have T' := G.T
  refine wpAny_call ?_
  refine' call_flatC (f := 92) G ?k6 ?k7 ?k8 ?k9 ?kB ?kD ?_ ?c2 ?c3 ?c4
  (case k6 => k_is)
  (case k7 => k_is)
  (case k8 => exact Nat.le_of_ble_eq_true rfl)
  (case k9 => exact BindsTo.of_eq rfl)
  (case kB => exact rfl)
  (case kD => decide +kernel)
  (case c2 => exact rfl)
  (case c3 => exact rfl)
  (case c4 => exact rfl)
  intro L' h' tk' cells' F' N' Y'
  k_cells Y'
  dsimp only
  rename_i o' d'
  have hC : h'.IsCell (L' + 1) (some (.int st t1)) := ⟨o', (N' _ (.head _)).1, d'⟩
  walk_at "mine go"
  refine len_listN (n := vs.length) (stays_list F'.keep hl) (by simp) (by omega) ?_
  dsimp only
  walk_at "mine go"
  · exfalso; omega
  (try k_unmd)
  (try k_fold)
  refine wpAny_ListComp_free (cl := [(Str.ofString "start", L' + 1)]) (fun _ => true) (fun v y => ∃ k t t', v = .int k t ∧ y = .int ((st + k).fmod 8) t') ?c1 ?c2 ?c3 ?c4 ?c5 ?_ ?c6
  (case c1 => with_unfolding_all rfl)
  (case c2 => decide)
  (case c3 => with_unfolding_all rfl)
  (case c4 => decide)
  (case c5 => with_unfolding_all rfl)
  (case c6 => intro _; with_unfolding_all rfl)
  walk_at "mine go"
  rename_i h5 tk5 t5 u5 v5 hr5 F5 N5 kp5
  have hC5 : h5.IsCell (L' + 1) (some (.int st t1)) := hC.keeps kp5
  refine src_range (n := 8) rfl hr5 (by decide) ?_
  rintro it _ ⟨h₆, rfl⟩ Sr
  refine comp_evalT Sr ?_ ?_
  · rintro C i _ s₃ m₃ E' ⟨hi8, t, rfl⟩ Fc hm
    walk_at "mine go"
    exact CEnd.mk (fun _ _ e => e) ⟨_, _, _, rfl, rfl⟩
  · intro D k ys h₃ tk₃ hlen hys st' nw
    have hI : IntsAre ys ((List.range 8).map fun (k : Nat) => (st + (k : Int)).fmod 8) := ints_of (by rw [hlen]; rfl) fun j y n hy hn' => by
      obtain ⟨v, ⟨hj, t, rfl⟩, n', t', t'', e1, rfl⟩ := hys j y hy
      cases e1
      rw [List.getElem?_map, List.getElem?_range hj] at hn'
      cases hn'
      exact ⟨_, rfl⟩
    obtain ⟨F7, N7, -⟩ := news_new F5 N5 st' nw
    walk_at "mine go"
    exact ret_end (s := s) (new := [(D, _)]) ret F7 N7 (fun p hp => by rw [List.mem_singleton.mp hp]; exact .head _) ⟨_, _, _, rfl, rfl, hI⟩
end Mine
end

section
open PySem PySem.W PySem.Calls PyProof.Rows
namespace Mine

/-- what _law_price reckons -/
noncomputable def priceOf (one two ch : List Int) : Int :=
  if two = [] ∨ two.getD 0 0 ∉ one then 2 * (if (two.length : Int) > (one.length : Int) then (two.length : Int) else (one.length : Int)) else
  let k := one.idxOf (two.getD 0 0)
  let ahead := ((one.take k).map fun q => ch.getD q.toNat 0).sum
  let behind := ((one.drop k).map fun q => ch.getD q.toNat 0).sum
  let m1 := 4 * (k : Int) + behind
  let m2 := 4 * ((one.length : Int) - (k : Int)) + ahead
  let m3 := 2 * (one.length : Int)
  if m2 < m1 then (if m3 < m2 then m3 else m2) else (if m3 < m1 then m3 else m1)

theorem priceOf_out {one two ch : List Int} (h : two = [] ∨ two.getD 0 0 ∉ one) : priceOf one two ch = 2 * (if (two.length : Int) > (one.length : Int) then (two.length : Int) else (one.length : Int)) := by
  rw [priceOf, if_pos h]
theorem priceOf_in {one two ch : List Int} (h : two ≠ []) (h' : two.getD 0 0 ∈ one) : priceOf one two ch =
    (if 4 * ((one.length : Int) - (one.idxOf (two.getD 0 0) : Nat)) + ((one.take (one.idxOf (two.getD 0 0))).map fun q => ch.getD q.toNat 0).sum < 4 * ((one.idxOf (two.getD 0 0) : Nat) : Int) + ((one.drop (one.idxOf (two.getD 0 0))).map fun q => ch.getD q.toNat 0).sum
     then (if 2 * (one.length : Int) < 4 * ((one.length : Int) - (one.idxOf (two.getD 0 0) : Nat)) + ((one.take (one.idxOf (two.getD 0 0))).map fun q => ch.getD q.toNat 0).sum then 2 * (one.length : Int) else 4 * ((one.length : Int) - (one.idxOf (two.getD 0 0) : Nat)) + ((one.take (one.idxOf (two.getD 0 0))).map fun q => ch.getD q.toNat 0).sum)
     else (if 2 * (one.length : Int) < 4 * ((one.idxOf (two.getD 0 0) : Nat) : Int) + ((one.drop (one.idxOf (two.getD 0 0))).map fun q => ch.getD q.toNat 0).sum then 2 * (one.length : Int) else 4 * ((one.idxOf (two.getD 0 0) : Nat) : Int) + ((one.drop (one.idxOf (two.getD 0 0))).map fun q => ch.getD q.toNat 0).sum)) := by
  rw [priceOf, if_neg (fun c => c.elim h fun c => c h')]
section
variable {w : World} {A : Around} {E : Value → Shared → Prop} {s : Shared}
theorem meth_index {l : Addr} {vs : List Value} {k : Nat} {pl : Sem Bool} {Q : Value × List Value → Shared → Prop} (ho : s.heap.get? l = some (listOf vs.toArray k)) (h : Q (.builtin "list.index", [.ref l]) s) :
    wpAny (model PG w) A (getMethod (.ref l) (Str.ofString "index") pl) Q E s :=
  getMethod_list_of PySem.F.slot_list_index PySem.F.type_list_index ⟨_, ho, rfl, k, rfl⟩ ⟨_, ho, rfl⟩ h
theorem index_ints {l : Addr} {vs : List Value} {ns : List Int} {n : Nat} {k : Int} {t : Tok} {Q : Value → Shared → Prop} (ho : s.heap.get? l = some (listOf vs.toArray n)) (hi : IntsAre vs ns) (h8 : ns.length ≤ 8) (hk : k ∈ ns)
    (h : Q (.int (ns.idxOf k : Nat) s.toks) { s with toks := s.toks + 1 }) : wpAny (model PG w) A (call (.builtin "list.index") [.ref l, .int k t]) Q E s := by
  have hj : ns.idxOf k < ns.length := List.idxOf_lt_length_iff.mpr hk
  have hv : ns.idxOf k < vs.length := by rw [hi.length]; exact hj
  refine call_meets PySem.F.slot_list_index ⟨_, ho, rfl⟩ PySem.F.entry_list_index (PySem.F.args_list_index_2 _ _)
    (PySem.SeqAt.list_indexAt l vs.toArray n none #[] (.int k t) (isInt k) (ns.idxOf k) (by simpa using hv) (by omega) ?_ ?_) ⟨ho, fun y hy => (eq_isInt k t hi y (by simpa using hy)).at _ _, h⟩
  · show isInt k vs[ns.idxOf k] = true
    rw [isInt_at k hi _ hv hj]
    simpa using List.getElem_idxOf hj
  · intro j hjs hlt
    have hjv : j < vs.length := by simpa using hjs
    show isInt k vs[j] = false
    rw [isInt_at k hi j hjv (by rw [← hi.length]; exact hjv)]
    exact ne_of_lt_idxOf hlt _
end

set_option maxRecDepth 100000 in
set_option maxHeartbeats 4000000 in
theorem c_price {w : World} {mean : ExcName → Option Value} {mg mb : Str → Option Value} {base : Heap} {env : Env} {outer : List Env} {s : Shared} {l1 l2 l3 : Addr} {v1 v2 v3 : List Value} {one two ch : List Int} {k1 : Nat} {Q E : Value → Shared → Prop}
    (G : Gr w mean mg mb (AX 320 1000 env outer) base (env :: outer) s.heap) (ho1 : s.heap.get? l1 = some (listOf v1.toArray k1)) (i1 : IntsAre v1 one) (n1 : one.length ≤ 8) (b1 : ∀ q ∈ one, 0 ≤ q ∧ q < 8) (hl2 : s.heap.IsList l2 v2.toArray) (i2 : IntsAre v2 two) (n2 : two.length ≤ 8) (hl3 : s.heap.IsList l3 v3.toArray) (i3 : IntsAre v3 ch) (n3 : ch.length = 8)
    (ret : RetTo s Q fun v new => ∃ t, v = .int (priceOf one two ch) t ∧ new = []) : wpAny (model PG w) (AX 320 1000 env outer) (call (.ref 104) [.ref l1, .ref l2, .ref l3]) Q E s := by
  w_on
  have B' := G.B
  have X' := G.X
  have T' := G.T
  refine wpAny_call ?_
  refine' call_flatC (f := 104) G ?k6 ?k7 ?k8 ?k9 ?kB ?kD ?_ ?c2 ?c3 ?c4
  (case k6 => k_is)
  (case k7 => k_is)
  (case k8 => exact Nat.le_of_ble_eq_true rfl)
  (case k9 => exact BindsTo.of_eq rfl)
  (case kB => exact rfl)
  (case kD => decide +kernel)
  (case c2 => exact rfl)
  (case c3 => exact rfl)
  (case c4 => exact rfl)
  intro L' h' tk' cells' F' N' Y'
  k_cells Y'
  dsimp only
  rename_i o' d'
  have hl1 : s.heap.IsList l1 v1.toArray := ⟨_, ho1, rfl, k1, rfl⟩
  have hC : h'.IsCell (L' + 1) (some (.ref l3)) := ⟨o', (N' _ (.head _)).1, d'⟩
  by_cases he : two = []
  · subst he
    (repeat' (first | (walk_at "mine stops"; (fail_if_success (with_reducible (first | (show wpAny _ _ (subscriptTail (Expr.Name (Str.ofString "one") _) (Expr.Slice _ _ _ _) _ _) _ _ _)))); walk_at "mine step")))
    refine ret_end (s := s) (new := []) ret (by assumption) (by assumption) (List.forall_mem_nil _) ⟨_, congrArg (Value.int · _) ?_, rfl⟩
    exact (priceOf_out (.inl rfl)).symm
  have hne : 0 < two.length := by
    rcases two with _ | ⟨b, r⟩
    · exact absurd rfl he
    · simp
  by_cases hin : two.getD 0 0 ∈ one
  · have hany : (one.any fun x => x == two.getD (0 : Int).toNat 0) = true := by
      rw [List.any_eq_true]; exact ⟨_, hin, by simp⟩
    (repeat' (first | (walk_at "mine stops"; (fail_if_success (with_reducible (first | (show wpAny _ _ (subscriptTail (Expr.Name (Str.ofString "one") _) (Expr.Slice _ _ _ _) _ _) _ _ _)))); walk_at "mine step")))
    refine meth_index (Fr.keep (by assumption) _ _ ho1) ?_
    dsimp only
    (repeat' (first | (walk_at "mine stops"; (fail_if_success (with_reducible (first | (show wpAny _ _ (subscriptTail (Expr.Name (Str.ofString "one") _) (Expr.Slice _ _ _ _) _ _) _ _ _)))); walk_at "mine step")))
    refine index_ints (Fr.keep (by assumption) _ _ ho1) i1 n1 hin ?_
    dsimp only
    have hj : one.idxOf (two.getD 0 0) < one.length := List.idxOf_lt_length_iff.mpr hin
    (repeat' (first | (walk_at "mine stops"; (fail_if_success (with_reducible (first | (show wpAny _ _ (subscriptTail (Expr.Name (Str.ofString "one") _) (Expr.Slice _ _ _ _) _ _) _ _ _)))); walk_at "mine step")))
    (try k_unmd)
    (try k_fold)
    refine wpAny_ListComp_free (cl := [(Str.ofString "changed", L' + 1)]) (fun _ => true) (fun v y => ∃ q t t', v = .int q t ∧ y = .int (ch.getD q.toNat 0) t') ?c1 ?c2 ?c3 ?c4 ?c5 ?_ ?c6
    (case c1 => with_unfolding_all rfl)
    (case c2 => decide)
    (case c3 => with_unfolding_all rfl)
    (case c4 => decide)
    (case c5 => with_unfolding_all rfl)
    (case c6 => intro _; with_unfolding_all rfl)
    (repeat' (first | (walk_at "mine stops"; (fail_if_success (with_reducible (first | (show wpAny _ _ (subscriptTail (Expr.Name (Str.ofString "one") _) (Expr.Slice _ _ _ _) _ _) _ _ _)))); walk_at "mine step")))
    refine' kmk_slice_ints ?y1 ?y2 ?y3 ?y4 ?y5 ?y6 ?y7 ?y8 ?_ ?ya ?yb ?yc
    (case y1 => k_asm)
    (case y2 => k_asm)
    (case y3 => kmk_list)
    (case y4 => kmk_part)
    (case y5 => kmk_part)
    (case y6 => exact i1)
    (case y7 => exact kmk_upto i1 (Int.natCast_nonneg _))
    (case y8 => exact rfl)
    (case ya => with_unfolding_all rfl)
    (case yb => kmk_pure)
    (case yc => (rw [List.size_toArray, i1.length, sizeLine_eq]; omega))
    intro D5a ws5a h5a F5a N5a l5a hI5a _ _
    (try k_sweep)
    (try dsimp only)
    (repeat' (first | (walk_at "mine stops"; (fail_if_success (with_reducible (first | (show wpAny _ _ (subscriptTail (Expr.Name (Str.ofString "one") _) (Expr.Slice _ _ _ _) _ _) _ _ _)))); walk_at "mine step")))
    have hJ5a : IntsAre ws5a (one.take (one.idxOf (two.getD 0 0))) := hI5a
    have hC5a : h5a.IsCell (L' + 1) (some (.ref l3)) := ⟨o', (N5a (L' + 1, o') (by simp)).1, d'⟩
    have hl3a : h5a.IsList l3 v3.toArray := stays_list F5a.keep hl3
    have hza : ws5a.length ≤ 8 := by rw [hJ5a.length]; simp; omega
    refine src_list rfl (News.isList N5a (.head _)) (Nat.le_trans hza (by decide)) ?_
    rintro it _ ⟨h6a, rfl⟩ Sra
    refine comp_evalT Sra ?_ ?_
    · intro C i v s₃ m₃ E' hP Fc hm
      obtain ⟨q, t, rfl, hq⟩ := hJ5a.at i v hP
      have hqb := b1 q (List.mem_of_mem_take (List.mem_of_getElem? hq))
      (repeat' (first | (walk_at "mine stops"; (fail_if_success (with_reducible (first | (show wpAny _ _ (subscriptTail (Expr.Name (Str.ofString "one") _) (Expr.Slice _ _ _ _) _ _) _ _ _)))); walk_at "mine step")))
      exact CEnd.mk (fun _ _ e => e) ⟨_, _, _, rfl, rfl⟩
    intro D7a k7a ys7a h7a tk7a hlen7a hys7a st7a nw7a
    have hI7a : IntsAre ys7a ((one.take (one.idxOf (two.getD 0 0))).map fun q => ch.getD q.toNat 0) := ints_of (by rw [hlen7a, hJ5a.length, List.length_map]) fun j y n hy hn' => by
      obtain ⟨v, hv, n', t, t', rfl, rfl⟩ := hys7a j y hy
      obtain ⟨n'', t'', e1, e2⟩ := hJ5a.at j _ hv
      cases e1
      rw [List.getElem?_map, e2] at hn'
      cases hn'
      exact ⟨_, rfl⟩
    have hy8a : ys7a.length ≤ 8 := by rw [hlen7a]; exact hza
    obtain ⟨F8a, N8a, -⟩ := news_new F5a N5a st7a nw7a
    dsimp only [List.cons_append, List.nil_append] at N8a
    clear hys7a st7a nw7a Sra F5a N5a
    (repeat' (first | (walk_at "mine stops"; (fail_if_success (with_reducible (first | (show wpAny _ _ (subscriptTail (Expr.Name (Str.ofString "one") _) (Expr.Slice _ _ _ _) _ _) _ _ _)))); walk_at "mine step")))
    (try k_unmd)
    (try k_fold)
    refine wpAny_ListComp_free (cl := [(Str.ofString "changed", L' + 1)]) (fun _ => true) (fun v y => ∃ q t t', v = .int q t ∧ y = .int (ch.getD q.toNat 0) t') ?c1 ?c2 ?c3 ?c4 ?c5 ?_ ?c6
    (case c1 => with_unfolding_all rfl)
    (case c2 => decide)
    (case c3 => with_unfolding_all rfl)
    (case c4 => decide)
    (case c5 => with_unfolding_all rfl)
    (case c6 => intro _; with_unfolding_all rfl)
    (repeat' (first | (walk_at "mine stops"; (fail_if_success (with_reducible (first | (show wpAny _ _ (subscriptTail (Expr.Name (Str.ofString "one") _) (Expr.Slice _ _ _ _) _ _) _ _ _)))); walk_at "mine step")))
    refine' kmk_slice_ints ?y1 ?y2 ?y3 ?y4 ?y5 ?y6 ?y7 ?y8 ?_ ?ya ?yb ?yc
    (case y1 => k_asm)
    (case y2 => k_asm)
    (case y3 => kmk_list)
    (case y4 => kmk_part)
    (case y5 => kmk_part)
    (case y6 => exact i1)
    (case y7 => exact kmk_from i1 (Int.natCast_nonneg _))
    (case y8 => exact rfl)
    (case ya => with_unfolding_all rfl)
    (case yb => kmk_pure)
    (case yc => (rw [List.size_toArray, i1.length, sizeLine_eq]; omega))
    intro D5b ws5b h5b F5b N5b l5b hI5b _ _
    (try k_sweep)
    (try dsimp only)
    (repeat' (first | (walk_at "mine stops"; (fail_if_success (with_reducible (first | (show wpAny _ _ (subscriptTail (Expr.Name (Str.ofString "one") _) (Expr.Slice _ _ _ _) _ _) _ _ _)))); walk_at "mine step")))
    have hJ5b : IntsAre ws5b (one.drop (one.idxOf (two.getD 0 0))) := hI5b
    have hC5b : h5b.IsCell (L' + 1) (some (.ref l3)) := ⟨o', (N5b (L' + 1, o') (by simp)).1, d'⟩
    have hl3b : h5b.IsList l3 v3.toArray := stays_list F5b.keep hl3
    have hzb : ws5b.length ≤ 8 := by rw [hJ5b.length]; simp; omega
    refine src_list rfl (News.isList N5b (.head _)) (Nat.le_trans hzb (by decide)) ?_
    rintro it _ ⟨h6b, rfl⟩ Srb
    refine comp_evalT Srb ?_ ?_
    · intro C i v s₃ m₃ E' hP Fc hm
      obtain ⟨q, t, rfl, hq⟩ := hJ5b.at i v hP
      have hqb := b1 q (List.mem_of_mem_drop (List.mem_of_getElem? hq))
      (repeat' (first | (walk_at "mine stops"; (fail_if_success (with_reducible (first | (show wpAny _ _ (subscriptTail (Expr.Name (Str.ofString "one") _) (Expr.Slice _ _ _ _) _ _) _ _ _)))); walk_at "mine step")))
      exact CEnd.mk (fun _ _ e => e) ⟨_, _, _, rfl, rfl⟩
    intro D7b k7b ys7b h7b tk7b hlen7b hys7b st7b nw7b
    have hI7b : IntsAre ys7b ((one.drop (one.idxOf (two.getD 0 0))).map fun q => ch.getD q.toNat 0) := ints_of (by rw [hlen7b, hJ5b.length, List.length_map]) fun j y n hy hn' => by
      obtain ⟨v, hv, n', t, t', rfl, rfl⟩ := hys7b j y hy
      obtain ⟨n'', t'', e1, e2⟩ := hJ5b.at j _ hv
      cases e1
      rw [List.getElem?_map, e2] at hn'
      cases hn'
      exact ⟨_, rfl⟩
    have hy8b : ys7b.length ≤ 8 := by rw [hlen7b]; exact hzb
    obtain ⟨F8b, N8b, -⟩ := news_new F5b N5b st7b nw7b
    dsimp only [List.cons_append, List.nil_append] at N8b
    clear hys7b st7b nw7b Srb F5b N5b
    (repeat' (first | (walk_at "mine stops"; (fail_if_success (with_reducible (first | (show wpAny _ _ (subscriptTail (Expr.Name (Str.ofString "one") _) (Expr.Slice _ _ _ _) _ _) _ _ _)))); walk_at "mine step")))
    refine ret_end (s := s) (new := []) ret (by assumption) (by assumption) (List.forall_mem_nil _) ⟨_, congrArg (Value.int · _) ?_, rfl⟩
    exact (priceOf_in he hin).symm
  · have hany : (one.any fun x => x == two.getD (0 : Int).toNat 0) = false := by
      rw [List.any_eq_false]; intro q hq hc
      exact hin ((beq_iff_eq.mp hc : q = two.getD 0 0) ▸ hq)
    (repeat' (first | (walk_at "mine stops"; (fail_if_success (with_reducible (first | (show wpAny _ _ (subscriptTail (Expr.Name (Str.ofString "one") _) (Expr.Slice _ _ _ _) _ _) _ _ _)))); walk_at "mine step")))
    refine ret_end (s := s) (new := []) ret (by assumption) (by assumption) (List.forall_mem_nil _) ⟨_, congrArg (Value.int · _) ?_, rfl⟩
    exact (priceOf_out (.inr hin)).symm
end Mine
end

section
open PySem PySem.W PySem.Calls PyProof.Rows
namespace Mine

theorem S_empty : Str.ofString "" = S [] := by decide +kernel
theorem S_tick : Str.ofString "'" = S [39] := by decide +kernel
/-- texts glued -/
theorem glued_go (sep : List Nat) : ∀ (ls : List (List Nat)) (acc : List Nat), (ls.map S).foldl (fun acc p => acc ++ (S sep).cps ++ p.cps) acc.toArray = (acc ++ (ls.map fun l => sep ++ l).flatten).toArray
  | [], acc => by simp
  | l :: ls, acc => by
    rw [List.map_cons, List.foldl_cons]
    have e : acc.toArray ++ (S sep).cps ++ (S l).cps = (acc ++ sep ++ l).toArray := by simp [S]
    rw [e, glued_go sep ls]
    simp
noncomputable def glueL (sep : List Nat) : List (List Nat) → List Nat
  | [] => []
  | l :: ls => l ++ (ls.map fun l => sep ++ l).flatten
theorem join_S (sep : List Nat) (ls : List (List Nat)) : Txt.join (S sep) (ls.map S) = S (glueL sep ls) := by
  cases ls with
  | nil => rfl
  | cons l ls =>
    show Builtin.Str.glued (S sep) (S l :: ls.map S) = _
    unfold Builtin.Str.glued
    rw [List.drop_one, List.tail_cons, List.headD_cons]
    have := glued_go sep ls l
    apply Str.ext'
    exact this
theorem glue_nil (ls : List (List Nat)) : glueL [] ls = ls.flatten := by
  cases ls with
  | nil => rfl
  | cons l ls => simp [glueL]
theorem strs_of : ∀ {ys : List Value} {ms : List Str}, ys.length = ms.length → (∀ (j : Nat) (y : Value) (x : Str), ys[j]? = some y → ms[j]? = some x → ∃ t, y = .str x t) → StrsAre ys ms
  | [], [], _, _ => .nil
  | y :: ys, x :: ms, h, k => by
    obtain ⟨t, rfl⟩ := k 0 y x rfl rfl
    exact .cons _ _ (strs_of (by simpa using h) fun j y' n' e e' => k (j + 1) y' n' (by simpa using e) (by simpa using e'))
theorem flat_single {α β : Type} (f : α → β) : ∀ q : List α, (q.map fun k => [f k]).flatten = q.map f
  | [] => rfl
  | a :: q => by rw [List.map_cons, List.flatten_cons, flat_single f q]; rfl
theorem sum_ones {α : Type} : ∀ q : List α, (q.map fun _ => 1).sum = q.length
  | [] => rfl
  | a :: q => by rw [List.map_cons, List.sum_cons, sum_ones q, List.length_cons]; omega
theorem ints_unique : ∀ {vs : List Value} {a b : List Int}, IntsAre vs a → IntsAre vs b → a = b
  | _, _, _, .nil, .nil => rfl
  | _, _, _, .cons _ _ h, .cons _ _ h' => by rw [ints_unique h h']
theorem isList_unique {h : Heap} {a : Addr} {x y : List Value} (hx : h.IsList a x.toArray) (hy : h.IsList a y.toArray) : x = y := by
  obtain ⟨o, ho, _, n, hd⟩ := hx
  obtain ⟨o', ho', _, n', hd'⟩ := hy
  rw [ho] at ho'; cases ho'
  rw [hd] at hd'
  have := Data.seq.inj hd'
  simpa using congrArg Array.toList this.1
theorem sum_le8 : ∀ pcs : List (List Int), (∀ q ∈ pcs, q.length ≤ 8) → (pcs.map List.length).sum ≤ 8 * pcs.length
  | [], _ => by simp
  | q :: pcs, h => by
    have h1 := h q (.head _)
    have h2 := sum_le8 pcs fun q' h' => h q' (.tail _ h')
    rw [List.map_cons, List.sum_cons, List.length_cons]; omega
/-- a reference to a list of these ints -/
noncomputable def PieceAt (g : Heap) (v : Value) (q : List Int) : Prop := ∃ a ws, v = .ref a ∧ g.IsList a (ws : List Value).toArray ∧ IntsAre ws q
abbrev wordsOf' (sg : List Nat) (q : List Int) : List Nat := q.map fun k => sg.getD k.toNat 0

set_option maxRecDepth 100000 in
set_option maxHeartbeats 4000000 in
theorem c_due {w : World} {mean : ExcName → Option Value} {mg mb : Str → Option Value} {base : Heap} {env : Env} {outer : List Env} {s : Shared} {l1 l2 : Addr} {v1 : List Value} {sg : List Nat} {inn : List (Addr × Obj)} {pcs : List (List Int)} {Q E : Value → Shared → Prop}
    (G : Gr w mean mg mb (AX 320 1000 env outer) base (env :: outer) s.heap) (hl1 : s.heap.IsList l1 v1.toArray) (n8 : v1.length = 8) (hsg : ∀ (j : Nat) (y : Value), v1[j]? = some y → ∃ t, y = .str (S [sg.getD j 0]) t) (hl2 : s.heap.IsList l2 (refsOf' inn).toArray) (hin : ∀ p ∈ inn, s.heap.get? p.1 = some p.2) (hp : Paired Inn inn pcs) (hp9 : pcs.length ≤ 9) (hq8 : ∀ q ∈ pcs, q.length ≤ 8 ∧ ∀ k ∈ q, 0 ≤ k ∧ k < 8)
    (ret : RetTo s Q fun v new => (pcs.length = 3 → ∃ a n ys, v = .ref a ∧ new = [(a, listOf (ys : List Value).toArray n)] ∧ StrsAre ys ((pcs.map (wordsOf' sg)).map S)) ∧ (pcs.length ≠ 3 → ∃ a t, v = .ref a ∧ new = [(a, { cls := .type "tuple", data := .seq #[.none, .none, .str (S (glueL [39] (pcs.map (wordsOf' sg)))) t] })])) : wpAny (model PG w) (AX 320 1000 env outer) (call (.ref 87) [.ref l1, .ref l2]) Q E s := by
  w_on
  have B' := G.B
  have X' := G.X
  have T' := G.T
  refine wpAny_call ?_
  refine' call_flatC (f := 87) G ?k6 ?k7 ?k8 ?k9 ?kB ?kD ?_ ?c2 ?c3 ?c4
  (case k6 => k_is)
  (case k7 => k_is)
  (case k8 => exact Nat.le_of_ble_eq_true rfl)
  (case k9 => exact BindsTo.of_eq rfl)
  (case kB => exact rfl)
  (case kD => decide +kernel)
  (case c2 => exact rfl)
  (case c3 => exact rfl)
  (case c4 => exact rfl)
  intro L' h' tk' cells' F' N' Y'
  k_cells Y'
  dsimp only
  rename_i o' d'
  have hC : h'.IsCell (L' + 1) (some (.ref l1)) := ⟨o', (N' _ (.head _)).1, d'⟩
  have hil : inn.length = pcs.length := (paired_at hp).1.symm
  walk_at "mine go"
  (try k_unmd)
  (try k_fold)
  refine wpAny_Assign_ListComp_free (cl := [(Str.ofString "signs", L' + 1)]) (fun _ => true) (fun v y => ∃ q t, PieceAt s.heap v q ∧ y = .str (S (wordsOf' sg q)) t) ?c0 ?c1 ?c2 ?c3 ?c4 ?c5 ?c7 ?c8 ?_ ?c6
  (case c0 => with_unfolding_all rfl)
  (case c7 => with_unfolding_all rfl)
  (case c8 => with_unfolding_all rfl)
  (case c1 => with_unfolding_all rfl)
  (case c2 => decide)
  (case c3 => with_unfolding_all rfl)
  (case c4 => decide)
  (case c5 => with_unfolding_all rfl)
  (case c6 => intro _; with_unfolding_all rfl)
  walk_at "mine go"
  refine src_list rfl (stays_list F'.keep hl2) (Nat.le_trans (by simp; omega) (show 9 ≤ sizeLine by decide)) ?_
  rintro it _ ⟨h₂, rfl⟩ Sr
  refine comp_assignT Sr F' N' ?_ ?_
  · intro C i v s₃ m₃ E' hP Fc hm
    have hv : ∃ q, q ∈ pcs ∧ PieceAt s.heap v q := by
      rw [List.getElem?_map] at hP
      cases e : inn[i]? with
      | none => rw [e] at hP; cases hP
      | some p =>
        rw [e] at hP; cases hP
        have hlt : i < pcs.length := by rw [← hil]; exact (List.getElem?_eq_some_iff.mp e).1
        obtain ⟨p', hp', ws, k, ho, hw⟩ := (paired_at hp).2 i pcs[i] (by simp [hlt])
        rw [e] at hp'; cases hp'
        exact ⟨pcs[i], List.getElem_mem hlt, p.1, ws, rfl, ⟨_, hin p (List.mem_of_getElem? e), by rw [ho], k, by rw [ho]⟩, hw⟩
    obtain ⟨q, hq, a, ws, rfl, hla, hwi⟩ := hv
    have hq2 := hq8 q hq
    have g1 : s₃.heap.IsList l1 v1.toArray := stays_list Fc.keep (stays_list F'.keep hl1)
    have ga : s₃.heap.IsList a ws.toArray := stays_list Fc.keep (stays_list F'.keep hla)
    have gC : s₃.heap.IsCell (L' + 1) (some (.ref l1)) := hC.keeps Fc.keep
    walk_at "mine go"
    (try k_unmd)
    (try k_fold)
    refine wpAny_ListComp_free (cl := [(Str.ofString "signs", L' + 1)]) (fun _ => true) (fun v y => ∃ k t t', v = .int k t ∧ y = .str (S [sg.getD k.toNat 0]) t') ?c1 ?c2 ?c3 ?c4 ?c5 ?_ ?c6
    (case c1 => with_unfolding_all rfl)
    (case c2 => decide)
    (case c3 => with_unfolding_all rfl)
    (case c4 => decide)
    (case c5 => with_unfolding_all rfl)
    (case c6 => intro _; with_unfolding_all rfl)
    walk_at "mine go"
    refine src_list rfl ga (Nat.le_trans (by rw [hwi.length]; exact hq2.1) (show 8 ≤ sizeLine by decide)) ?_
    rintro it2 _ ⟨h4, rfl⟩ Sr2
    refine comp_evalT Sr2 ?_ ?_
    · intro C2 i2 v2 s5 m5 E5 hP2 Fc2 hm2
      obtain ⟨k, t, rfl, hk⟩ := hwi.at i2 v2 hP2
      have hkb := hq2.2 k (List.mem_of_getElem? hk)
      have hkl : k.toNat < v1.length := by omega
      obtain ⟨t9, hx9⟩ := hsg k.toNat v1[k.toNat] (by simp [hkl])
      walk_at "mine go"
      refine item_list (x := .str (S [sg.getD k.toNat 0]) t9) (stays_list Fc2.keep g1) hkb.1 (by omega) (by simp [hkl, hx9]) ?_ ?c1 ?c2
      (case c1 => with_unfolding_all rfl)
      (case c2 => intro _; with_unfolding_all rfl)
      exact CEnd.mk (fun _ _ e => e) ⟨_, _, _, rfl, rfl⟩
    · intro D k ys h7 tk7 hlen hys st nw
      have hST : StrsAre ys ((q.map fun k => [sg.getD k.toNat 0]).map S) := strs_of (by rw [hlen, hwi.length]; simp) fun j y x hy hx => by
        obtain ⟨v, hv, k', t', t'', rfl, rfl⟩ := hys j y hy
        obtain ⟨n, t0, e1, e2⟩ := hwi.at j _ hv
        cases e1
        rw [List.getElem?_map, List.getElem?_map, e2] at hx
        cases hx
        exact ⟨_, rfl⟩
      have hD : h7.IsList D ys.toArray := ⟨_, (nw _ (.head _)).1, rfl, k, rfl⟩
      have hjs : Txt.join (S []) ((q.map fun k => [sg.getD k.toNat 0]).map S) = S (wordsOf' sg q) := by
        rw [join_S, glue_nil, flat_single]
      have hok : ((((q.map fun k => [sg.getD k.toNat 0]).map S).map (·.length)).sum + ((q.map fun k => [sg.getD k.toNat 0]).map S).length * (S []).length ≤ 16777216) := by
        have e : ((q.map fun k => [sg.getD k.toNat 0]).map S).map (·.length) = q.map fun _ => 1 := by
          rw [List.map_map, List.map_map]; rfl
        rw [e, sum_ones, S_len]
        have := hq2.1
        simp; omega
      walk_at "mine go"
      rw [S_empty]
      refine join_list hD (by simpa using hST) hok ?_
      intro t9 k9
      (try k_unmd)
      k_unfold
      dsimp only
      rw [hjs]
      exact CEnd.mk st ⟨q, _, ⟨a, ws, rfl, hla, hwi⟩, rfl⟩
  · intro D k ys h7 tk7 hlen hys F7 N7 hne7
    have hST : StrsAre ys ((pcs.map (wordsOf' sg)).map S) := strs_of (by rw [hlen]; simp [hil]) fun j y x hy hx => by
      obtain ⟨v, hv, q, t', ⟨a, ws, rfl, hla, hwi⟩, rfl⟩ := hys j y hy
      rw [List.getElem?_map] at hv
      cases e : inn[j]? with
      | none => rw [e] at hv; cases hv
      | some p =>
        rw [e] at hv; cases hv
        have hlt : j < pcs.length := by rw [← hil]; exact (List.getElem?_eq_some_iff.mp e).1
        obtain ⟨p', hp', ws', k', ho, hw'⟩ := (paired_at hp).2 j pcs[j] (by simp [hlt])
        rw [e] at hp'; cases hp'
        have hl' : s.heap.IsList p.1 ws'.toArray := ⟨_, hin p (List.mem_of_getElem? e), by rw [ho], k', by rw [ho]⟩
        have hqq : q = pcs[j] := by
          have := isList_unique hla hl'
          subst this
          exact ints_unique hwi hw'
        subst hqq
        rw [List.getElem?_map, List.getElem?_map, List.getElem?_eq_getElem hlt] at hx
        cases hx
        exact ⟨_, rfl⟩
    have hys9 : ys.length = pcs.length := by rw [hlen]; simp [hil]
    clear hys Sr
    walk_at "mine go"
    refine len_listN (n := ys.length) (News.isList N7 (.head _)) (by simp) (by omega) ?_
    dsimp only
    walk_at "mine go"
    · have hc := ‹(_ : Int) = 3›
      have hc3 : pcs.length = 3 := by omega
      dsimp only
      exact ret_end (s := s) (new := [(_, _)]) ret (by assumption) (by assumption) (fun p hp => by rw [List.mem_singleton.mp hp]; exact .head _) ⟨fun _ => ⟨_, _, _, rfl, rfl, hST⟩, fun h => absurd hc3 h⟩
    · have hc := ‹(_ : Int) ≠ 3›
      have hc3 : pcs.length ≠ 3 := by omega
      have hok : ((((pcs.map (wordsOf' sg)).map S).map (·.length)).sum + ((pcs.map (wordsOf' sg)).map S).length * (S [39]).length ≤ 16777216) := by
        have e : ((pcs.map (wordsOf' sg)).map S).map (·.length) = pcs.map List.length := by
          rw [List.map_map, List.map_map]
          exact List.map_congr_left fun q _ => by simp [S_len, wordsOf']
        rw [e, S_len]
        have := sum_le8 pcs fun q hq => (hq8 q hq).1
        simp; omega
      rw [S_tick]
      refine join_list (News.isList N7 (.head _)) (by simpa using hST) hok ?_
      intro t9 k9
      (try k_unmd)
      (try k_unfold)
      (try dsimp only)
      rw [join_S]
      walk_at "mine go"
      exact ret_end (s := s) (new := [(_, _)]) ret (by assumption) (by assumption) (fun p hp => by rw [List.mem_singleton.mp hp]; exact .head _) ⟨fun h => absurd h hc3, fun _ => ⟨_, _, rfl, rfl⟩⟩
end Mine
end

section
open PySem PySem.W PySem.Calls PyProof.Rows
namespace Mine

section
variable {w : World} {A : Around} {E : Value → Shared → Prop} {s : Shared} {env : Env} {scope : Scope} {cl : List (Str × Addr)} {C : Addr} {g : Heap} {m₃ mg mb : Str → Option Value} {K : Frag} {q : Str} {pos : Pos} {v : Value} {Q : Value → Shared → Prop} {mean : ExcName → Option Value} {pr : Program} {loose : List Str}
theorem nameC_K (F : Fr g C s.heap m₃) (X : K.In g) (T : Top pr loose mean mg mb g) (e : nsIn K mainGlobals q = some (some v)) (h : Q v s)
    (hk : (compEnvC scope cl C env).scope.kind = .function) (hx : (compEnvC scope cl C env).kindOf q = some .globalImplicit) (hgl : env.globals = mainGlobals := by rfl) (hd : (q == ("__debug__" : Str)) = false := by decide) :
    wpAny (model PG w) A (eval (.Name q pos) (compEnvC scope cl C env)) Q E s :=
  Name_function_global hk hx (loadGlobal_global (env := compEnvC scope cl C env) (hgl.symm ▸ T.g.keeps F.keep) (mg_of X T.g e) h) hd
theorem nameC_B (F : Fr g C s.heap m₃) (X : K.In g) (T : Top pr loose mean mg mb g) (e : nsIn K mainGlobals q = some none) (hv : bootBuiltins q = some v) (hn : q ≠ "__name__") (h : Q v s)
    (hk : (compEnvC scope cl C env).scope.kind = .function) (hx : (compEnvC scope cl C env).kindOf q = some .globalImplicit) (hgl : env.globals = mainGlobals := by rfl) (hbl : env.builtins = builtinsNs := by rfl) (hd : (q == ("__debug__" : Str)) = false := by decide) :
    wpAny (model PG w) A (eval (.Name q pos) (compEnvC scope cl C env)) Q E s :=
  Name_function_global hk hx (loadGlobal_builtin (env := compEnvC scope cl C env) (hgl.symm ▸ T.g.keeps F.keep) (mg_none_of X T.g e) (hbl.symm ▸ T.b.keeps F.keep) ((T.builtins q hn).trans hv) h) hd
end

/-- the hue of place j of sixteen -/
noncomputable def hueJ (j : Int) : UInt64 := Float64.ofFrac (decide (j < 0) != decide ((16 : Int) < 0)) j.natAbs (Int.natAbs 16)
theorem hue_fin {j : Int} (h0 : 0 ≤ j) (h1 : j < 16) : Float64.isInf (hueJ j) = false := by
  have all : ∀ i : Fin 16, Float64.isInf (hueJ (i.val : Int)) = false := by decide +kernel
  have := all ⟨j.toNat, by omega⟩
  simpa [Int.toNat_of_nonneg h0] using this
/-- a list of floats -/
noncomputable def FlAre (vs : List Value) (f : Nat → UInt64) : Prop := ∀ (j : Nat) (y : Value), vs[j]? = some y → ∃ t, y = .float (f j) t ∧ @LT.lt Nat _ 0 t
theorem nat_int_inj {a b : Nat} {t u : Tok} (h : Value.int (a : Int) t = Value.int (b : Int) u) : a = b ∧ t = u := by
  have h1 := Value.int.inj h
  exact ⟨Int.ofNat.inj h1.1, h1.2⟩
/-- changed or not -/
noncomputable def chF (kind sum : Int) : Int := if kind = 2 then 0 else (sum.fdiv 6).fmod 2
noncomputable def chL (km sm : List Int) : List Int := (List.range 8).map fun (k : Nat) => chF (km.getD k 0) (sm.getD k 0)
/-- the second wheel's kind -/
noncomputable def otF (kind ch : Int) : Int := if kind - ch < 0 then -(kind - ch) else kind - ch
noncomputable def otL (km cm : List Int) : List Int := (List.range 8).map fun (k : Nat) => otF (km.getD k 0) (cm.getD k 0)
/-- the place of a spot -/
noncomputable def plJ (sm : List Int) (k : Nat) : Int := 2 * (k : Int) + (sm.getD k 0).fmod 2
noncomputable def trJ (sm : List Int) (k : Nat) : Int := ((sm.getD k 0).fdiv 12).fmod 3
noncomputable def shF (κ : Int) : UInt64 := if κ = 2 then 0x3FE0000000000000 else 0x3FF0000000000000
noncomputable def lvF (κ : Int) : UInt64 := if κ = 1 then 0x3FE0000000000000 else 0x3FF0000000000000
noncomputable def liF (κ : Int) : UInt64 := if κ = 0 then 0x3FE0000000000000 else if κ = 1 then 0x3FD0000000000000 else 0x3FE8000000000000
theorem plJ_bd {sm : List Int} {k : Nat} (h : k < 8) : 0 ≤ plJ sm k ∧ plJ sm k < 16 := by
  unfold plJ
  have he := Int.fmod_eq_emod_of_nonneg (sm.getD k 0) (show (0 : Int) ≤ 2 by decide)
  omega
theorem trJ_bd (sm : List Int) (k : Nat) : 0 ≤ trJ sm k ∧ trJ sm k < 3 := by
  unfold trJ
  have he := Int.fmod_eq_emod_of_nonneg ((sm.getD k 0).fdiv 12) (show (0 : Int) ≤ 3 by decide)
  omega
abbrev Cs (L : Addr) (o1 o2 o3 o4 o5 : Obj) : List (Addr × Obj) := [(L + 1 + 1 + 1 + 1 + 1, o5), (L + 1 + 1 + 1 + 1, o4), (L + 1 + 1 + 1, o3), (L + 1 + 1, o2), (L + 1, o1)]
theorem ne5 {L a : Addr} {o1 o2 o3 o4 o5 : Obj} {news : List (Addr × Obj)} (h : ∀ q ∈ news, a ≠ q.1) (hc : ∀ q ∈ Cs L o1 o2 o3 o4 o5, q ∈ news) :
    @Ne Nat a (L + 1) ∧ @Ne Nat a (L + 1 + 1) ∧ @Ne Nat a (L + 1 + 1 + 1) ∧ @Ne Nat a (L + 1 + 1 + 1 + 1) ∧ @Ne Nat a (L + 1 + 1 + 1 + 1 + 1) :=
  ⟨h _ (hc _ (.tail _ (.tail _ (.tail _ (.tail _ (.head _)))))), h _ (hc _ (.tail _ (.tail _ (.tail _ (.head _))))), h _ (hc _ (.tail _ (.tail _ (.head _)))), h _ (hc _ (.tail _ (.head _))), h _ (hc _ (.head _))⟩

/-- the law's def, told by its place in the written heap -/
noncomputable def IsLaw (w : World) (name qual : Str) (scope : Scope) (cdv : Value) (body : List Stmt) : Prop :=
  ∃ oc od params dV kV doc pm an ct osl, (heapK w.params).lookup 109 = some ⟨oc, od, .func (fnOf name qual params body scope dV kV doc pm an cdv ct), osl⟩
theorem law_elim {w : World} {name qual name' qual' : Str} {scope scope' : Scope} {cdv cdv' : Value} {body body' : List Stmt} {params : Arguments} {dV kV doc pm ct oc : Value} {an od : Option Addr} {osl : Array (Option Value)} (P : Str → Scope → Value → List Stmt → Prop) (h : IsLaw w name qual scope cdv body)
    (ho : (heapK w.params).lookup 109 = some ⟨oc, od, .func (fnOf name' qual' params body' scope' dV kV doc pm an cdv' ct), osl⟩) (hp : P qual' scope' cdv' body') : P qual scope cdv body := by
  obtain ⟨oc, od, params, dV, kV, doc, pm, an, ct, osl, h⟩ := h
  rw [h] at ho
  cases ho
  exact hp

section
variable {w : World} {A : Around} {E : Value → Shared → Prop} {s : Shared} {env : Env} {h₀ : Heap} {L : Addr} {m : Str → Option Value} {news : List (Addr × Obj)} {Q : Value → Shared → Prop} {e : Expr}
/-- an expression whose ways meet -/
noncomputable def EvEnd (h₀ : Heap) (L : Addr) (m : Str → Option Value) (news : List (Addr × Obj)) (s : Shared) (Post : Value → Prop) (v : Value) (s₂ : Shared) : Prop :=
  ∃ h tk, s₂ = { s with heap := h, toks := tk } ∧ Fr h₀ L h m ∧ News h₀ L h news ∧ Post v
theorem EvEnd.mk {Post : Value → Prop} {h : Heap} {tk : Nat} {v : Value} {all : List (Addr × Obj)} (F : Fr h₀ L h m) (N : News h₀ L h all) (sub : ∀ p ∈ news, p ∈ all) (hp : Post v) : EvEnd h₀ L m news s Post v { s with heap := h, toks := tk } :=
  ⟨h, tk, rfl, F, fun p hp => N p (sub p hp), hp⟩
end
end Mine
end

section
open PySem PySem.W PySem.Calls PyProof.Rows
namespace Mine
/-- what the painting and the telling of one spot ask of the floats -/
structure Told (x y z : UInt64) (n : Int) (hu li : UInt64) (r g b : UInt64) : Prop where
  f : hsvF x y z n = (r, g, b)
  ne : (Float64.cmp (min3F r g b) (max3F r g b) == some Ordering.eq) = false
  z1 : Float64.isZero (max3F r g b) = false
  z2 : Float64.isZero (Float64.sub (max3F r g b) (min3F r g b)) = false
  z3 : Float64.isZero (Float64.add (max3F r g b) (min3F r g b)) = false
  z4 : Float64.isZero (Float64.sub (Float64.sub 4611686018427387904 (max3F r g b)) (min3F r g b)) = false
  h : hueF r g b = hu
  s : Float64.div (rangeF r g b) (max3F r g b) = y
  v : max3F r g b = z
  l : lightF r g b = li
  t : satF r g b = 0x3FF0000000000000
/-- the colours painted, kind by kind, place by place -/
noncomputable def tabL : List (UInt64 × UInt64 × UInt64) := [(4607182418800017408, 0, 0), (4607182418800017408, 4600427019358961664, 0), (4607182418800017408, 4604930618986332160, 0), (4606056518893174784, 4607182418800017408, 0), (4602678819172646912, 4607182418800017408, 0), (4593671619917905920, 4607182418800017408, 0), (0, 4607182418800017408, 4598175219545276416), (0, 4607182418800017408, 4603804719079489536), (0, 4607182418800017408, 4607182418800017408), (0, 4603804719079489536, 4607182418800017408), (0, 4598175219545276416, 4607182418800017408), (4593671619917905920, 0, 4607182418800017408), (4602678819172646912, 0, 4607182418800017408), (4606056518893174784, 0, 4607182418800017408), (4607182418800017408, 0, 4604930618986332160), (4607182418800017408, 0, 4600427019358961664), (4602678819172646912, 0, 0), (4602678819172646912, 4595923419731591168, 0), (4602678819172646912, 4600427019358961664, 0), (4601552919265804288, 4602678819172646912, 0), (4598175219545276416, 4602678819172646912, 0), (4589168020290535424, 4602678819172646912, 0), (0, 4602678819172646912, 4593671619917905920), (0, 4602678819172646912, 4599301119452119040), (0, 4602678819172646912, 4602678819172646912), (0, 4599301119452119040, 4602678819172646912), (0, 4593671619917905920, 4602678819172646912), (4589168020290535424, 0, 4602678819172646912), (4598175219545276416, 0, 4602678819172646912), (4601552919265804288, 0, 4602678819172646912), (4602678819172646912, 0, 4600427019358961664), (4602678819172646912, 0, 4595923419731591168), (4607182418800017408, 4602678819172646912, 4602678819172646912), (4607182418800017408, 4604367669032910848, 4602678819172646912), (4607182418800017408, 4606056518893174784, 4602678819172646912), (4606619468846596096, 4607182418800017408, 4602678819172646912), (4604930618986332160, 4607182418800017408, 4602678819172646912), (4603241769126068224, 4607182418800017408, 4602678819172646912), (4602678819172646912, 4607182418800017408, 4603804719079489536), (4602678819172646912, 4607182418800017408, 4605493568939753472), (4602678819172646912, 4607182418800017408, 4607182418800017408), (4602678819172646912, 4605493568939753472, 4607182418800017408), (4602678819172646912, 4603804719079489536, 4607182418800017408), (4603241769126068224, 4602678819172646912, 4607182418800017408), (4604930618986332160, 4602678819172646912, 4607182418800017408), (4606619468846596096, 4602678819172646912, 4607182418800017408), (4607182418800017408, 4602678819172646912, 4606056518893174784), (4607182418800017408, 4602678819172646912, 4604367669032910848)]
noncomputable def tabJ (j κ : Int) : UInt64 × UInt64 × UInt64 := tabL.getD (16 * κ + j).toNat (0, 0, 0)
noncomputable def chkA (j t κ : Int) : Bool :=
  match toI (Float64.mul (Float64.add (hueJ j) (Float64.ofInt t)) 4618441417868443648) with
  | none => false
  | some n => decide (0 ≤ n ∧ n < 24) && (hsvF (Float64.add (hueJ j) (Float64.ofInt t)) (shF κ) (lvF κ) n == tabJ j κ)
noncomputable def chkB (j κ : Int) : Bool :=
  match tabJ j κ with
  | (r, g, b) => ((Float64.cmp (min3F r g b) (max3F r g b) == some Ordering.eq) == false) && (Float64.isZero (max3F r g b) == false) && (Float64.isZero (Float64.sub (max3F r g b) (min3F r g b)) == false) &&
      (Float64.isZero (Float64.add (max3F r g b) (min3F r g b)) == false) && (Float64.isZero (Float64.sub (Float64.sub 4611686018427387904 (max3F r g b)) (min3F r g b)) == false) &&
      (hueF r g b == hueJ j) && (Float64.div (rangeF r g b) (max3F r g b) == shF κ) && (max3F r g b == lvF κ) && (lightF r g b == liF κ) && (satF r g b == 0x3FF0000000000000)
theorem chk_told {j t κ : Int} (ha : chkA j t κ = true) (h : chkB j κ = true) : ∃ n r g b, toI (Float64.mul (Float64.add (hueJ j) (Float64.ofInt t)) 4618441417868443648) = some n ∧ 0 ≤ n ∧ n < 24 ∧ Told (Float64.add (hueJ j) (Float64.ofInt t)) (shF κ) (lvF κ) n (hueJ j) (liF κ) r g b := by
  unfold chkA at ha
  split at ha
  · cases ha
  · rename_i n hn
    unfold chkB at h
    split at h
    rename_i r g b hf
    simp only [Bool.and_eq_true, decide_eq_true_eq, beq_iff_eq] at h ha
    obtain ⟨⟨⟨⟨⟨⟨⟨⟨⟨h1, h2⟩, h3⟩, h4⟩, h5⟩, h6⟩, h7⟩, h8⟩, h9⟩, h10⟩ := h
    exact ⟨n, r, g, b, hn, ha.1.1, ha.1.2, ha.2.trans hf, h1, h2, h3, h4, h5, h6, h7, h8, h9, h10⟩
theorem chkA_0 : ∀ (j : Fin 16) (t : Fin 3), chkA (j.val : Int) (t.val : Int) 0 = true := by decide +kernel
theorem chkA_1 : ∀ (j : Fin 16) (t : Fin 3), chkA (j.val : Int) (t.val : Int) 1 = true := by decide +kernel
theorem chkA_2 : ∀ (j : Fin 16) (t : Fin 3), chkA (j.val : Int) (t.val : Int) 2 = true := by decide +kernel
theorem chkB_0 : ∀ (j : Fin 16), chkB (j.val : Int) 0 = true := by decide +kernel
theorem chkB_1 : ∀ (j : Fin 16), chkB (j.val : Int) 1 = true := by decide +kernel
theorem chkB_2 : ∀ (j : Fin 16), chkB (j.val : Int) 2 = true := by decide +kernel
theorem told_all {j t κ : Int} (j0 : 0 ≤ j) (j1 : j < 16) (t0 : 0 ≤ t) (t1 : t < 3) (k0 : 0 ≤ κ) (k1 : κ ≤ 2) :
    ∃ n r g b, toI (Float64.mul (Float64.add (hueJ j) (Float64.ofInt t)) 4618441417868443648) = some n ∧ 0 ≤ n ∧ n < 24 ∧ Told (Float64.add (hueJ j) (Float64.ofInt t)) (shF κ) (lvF κ) n (hueJ j) (liF κ) r g b := by
  have ej : (((⟨j.toNat, by omega⟩ : Fin 16).val : Nat) : Int) = j := Int.toNat_of_nonneg j0
  have et : (((⟨t.toNat, by omega⟩ : Fin 3).val : Nat) : Int) = t := Int.toNat_of_nonneg t0
  rcases (show κ = 0 ∨ κ = 1 ∨ κ = 2 by omega) with rfl | rfl | rfl
  · exact chk_told (ej ▸ et ▸ chkA_0 ⟨j.toNat, by omega⟩ ⟨t.toNat, by omega⟩) (ej ▸ chkB_0 ⟨j.toNat, by omega⟩)
  · exact chk_told (ej ▸ et ▸ chkA_1 ⟨j.toNat, by omega⟩ ⟨t.toNat, by omega⟩) (ej ▸ chkB_1 ⟨j.toNat, by omega⟩)
  · exact chk_told (ej ▸ et ▸ chkA_2 ⟨j.toNat, by omega⟩ ⟨t.toNat, by omega⟩) (ej ▸ chkB_2 ⟨j.toNat, by omega⟩)
theorem sh_nz (κ : Int) : (Float64.cmp (shF κ) 0 == some Ordering.eq) = false := by
  unfold shF
  split
  · decide +kernel
  · decide +kernel
/-- the sign by the hue told: the place back -/
theorem hue_place {j : Int} (j0 : 0 ≤ j) (j1 : j < 16) : toI (Float64.mul (hueJ j) (Float64.ofInt 16)) = some j := by
  have all : ∀ i : Fin 16, toI (Float64.mul (hueJ (i.val : Int)) (Float64.ofInt 16)) = some (i.val : Int) := by decide +kernel
  have := all ⟨j.toNat, by omega⟩
  simpa [Int.toNat_of_nonneg j0] using this
theorem hue_lt {i j : Int} (i0 : 0 ≤ i) (i1 : i < 16) (j0 : 0 ≤ j) (j1 : j < 16) : Float64.cmp (hueJ i) (hueJ j) = some (if i < j then .lt else if i = j then .eq else .gt) := by
  have all : ∀ (i j : Fin 16), Float64.cmp (hueJ (i.val : Int)) (hueJ (j.val : Int)) = some (if (i.val : Int) < (j.val : Int) then .lt else if (i.val : Int) = (j.val : Int) then .eq else .gt) := by decide +kernel
  have := all ⟨i.toNat, by omega⟩ ⟨j.toNat, by omega⟩
  simpa [Int.toNat_of_nonneg i0, Int.toNat_of_nonneg j0] using this
end Mine
end

section
open PySem PySem.W PySem.Calls PyProof.Rows PySem.SeqAt
namespace Mine
/-- the counter of tokens never falls -/
theorem runs_toks {M : Model} {Γ : Ctx} {p : Pos} {t : Sem PySem.Fin} {fs : List Frame} {s s' : Shared} {e : End} (h : Runs M Γ p t fs s e s') : s.toks ≤ s'.toks := by
  induction h <;> (try simp only [Shared.setGen] at *) <;> omega
theorem returns_toks {M : Model} {Γ : Ctx} {p : Pos} {s s' : Shared} {r : Result} (h : Returns M Γ p s r s') : s.toks ≤ s'.toks := runs_toks h
theorem wakes_toks {M : Model} {Γ : Ctx} {p : Pos} {g : Nat} {r : Resume} {s s' : Shared} {res : GenResult} (h : Wakes M Γ p g r s res s') : s.toks ≤ s'.toks := by
  unfold Wakes at h
  split at h
  · exact h.elim
  · split at h
    · obtain ⟨e₁, s₁, hr, _, _, rfl⟩ := h
      have := runs_toks hr; (try simp only [Shared.setGen] at *); omega
    · obtain ⟨_, rfl⟩ := h; exact Nat.le_refl _
    · obtain ⟨_, rfl⟩ := h; exact Nat.le_refl _
  · obtain ⟨e₁, s₁, hr, _, _, rfl⟩ := h
    have := runs_toks hr; (try simp only [Shared.setGen] at *); omega
  all_goals (obtain ⟨_, rfl⟩ := h; exact Nat.le_refl _)
theorem wp_tok {X : Type} {post : X → Pos → Shared → Prop} {exc : Value → Pos → Shared → Prop} (M : Model) (Γ : Ctx) (n : Nat) (tree : Sem X) (pos : Pos) (sh : Shared) (hn : n ≤ sh.toks)
    (known : Sem.wp M Γ tree (fun x p s => n ≤ s.toks → post x p s) (fun e p s => n ≤ s.toks → exc e p s) pos sh) : Sem.wp M Γ tree post exc pos sh := by
  revert known
  induction tree generalizing pos sh with
  | pure x => exact fun h => h hn
  | raise v => exact fun h => h hn
  | unsupported | finish | yield | fork | await | register => exact id
  | rule _ k ih | «at» _ k ih | alloc _ k ih | loadIfAlive _ k ih | point _ k ih | ask k ih | os _ _ k ih | handled _ k ih | newGen _ k ih | stack k ih | thread k ih => exact ih _ _ _ hn
  | fresh k ih => exact ih _ _ _ (Nat.le_succ_of_le hn)
  | load a _ k ih | genState a k ih => exact fun ⟨o, ho, h⟩ => ⟨o, ho, ih _ _ _ hn h⟩
  | update a _ f k ih | choose _ _ k ih => exact fun ⟨ha, h⟩ => ⟨ha, ih _ _ _ hn h⟩
  | call c h g l k ih => exact fun ⟨r, s', hr, h⟩ => ⟨r, s', hr, ih r pos s' (Nat.le_trans hn (returns_toks hr)) h⟩
  | resume g r l k ih => exact fun ⟨res, s', hw, h⟩ => ⟨res, s', hw, ih _ _ _ (Nat.le_trans hn (wakes_toks hw)) h⟩
theorem wpAny_tok {α : Type} {M : Model} {A : Around} {t : Sem α} {Q : α → Shared → Prop} {E : Value → Shared → Prop} {s : Shared}
    (h : wpAny M A t (fun a s' => s.toks ≤ s'.toks → Q a s') (fun e s' => s.toks ≤ s'.toks → E e s') s) : wpAny M A t Q E s :=
  fun Γ p hΓ => wp_tok M Γ s.toks t p s (Nat.le_refl _) (h Γ p hΓ)
/-- the same where the errors go as they will -/
theorem wpAny_tokQ {α : Type} {M : Model} {A : Around} {t : Sem α} {Q : α → Shared → Prop} {E : Value → Shared → Prop} {s : Shared}
    (h : wpAny M A t (fun a s' => s.toks ≤ s'.toks → Q a s') E s) : wpAny M A t Q E s :=
  wpAny_tok (wpAny_mono h (fun _ _ h => h) fun _ _ h _ => h)

section
variable {w : World} {A₀ A : Around} {s : Shared} {base h₀ : Heap} {outer : List Env} {L : Addr} {m mg mb : Str → Option Value} {mean : ExcName → Option Value} {env : Env} {f : Addr}
/-- what a walked call hands back, with the counter of tokens -/
abbrev RetToT (s : Shared) (Q : Value → Shared → Prop) (Post : Value → List (Addr × Obj) → Nat → Prop) : Prop :=
  ∀ v h' tk' new, s.heap.StaysIn h' → NewOf s.heap h' new → Post v new tk' → Q v { s with heap := h', toks := tk' }
theorem call_useT {dp un : Nat} {news : List (Addr × Obj)} {vs : List Value} {Q E : Value → Shared → Prop} {Post : Value → List (Addr × Obj) → Nat → Prop}
    (B : Below A₀ base outer h₀) (F : Fr h₀ L s.heap m) (N : News h₀ L s.heap news) (X : (heapK w.params).In h₀) (T : TopV mean mg mb h₀)
    (hh : A.handled = none) (hA : A.frames = some (env :: outer)) (hg : A.guards = some []) (hdp : A.depth ≤ dp) (hun : A.units ≤ un) (hf : env.frame = some L) (hke : env.scope.kind = .function)
    (C : ∀ {Q : Value → Shared → Prop}, Gr w mean mg mb (AX dp un env outer) base (env :: outer) s.heap → RetToT s Q Post → wpAny (model PG w) (AX dp un env outer) (call (.ref f) vs) Q E s)
    (h : ∀ v h' tk' new, Fr h₀ L h' m → News h₀ L h' (new ++ news) → (∀ p ∈ new, ∀ q ∈ news, p.1 ≠ q.1) → s.heap.StaysIn h' → s.toks ≤ tk' → Post v new tk' → Q v { s with heap := h', toks := tk' }) :
    wpAny (model PG w) A (call (.ref f) vs) Q E s := by
  refine wpAny_tokQ (wpAny_le (A' := AX dp un env outer) hh hdp hA hg hun (C (Gr.of B F X T rfl hf hke) fun v h' tk' new st nw hp htk => ?_))
  obtain ⟨F', N', hne⟩ := news_new F N st nw
  exact h v h' tk' new F' N' (fun p hp q hq e => hne q hq p hp e.symm) st htk hp
theorem eval_cutT {e : Expr} {news : List (Addr × Obj)} {Q : Value → Shared → Prop} {E : Value → Shared → Prop} (Post : Value → Prop) (_F : Fr h₀ L s.heap m) (_N : News h₀ L s.heap news) (h : wpAny (model PG w) A (eval e env) (EvEnd h₀ L m news s Post) E s)
    (cont : ∀ v h' tk, Fr h₀ L h' m → News h₀ L h' news → s.toks ≤ tk → Post v → Q v { s with heap := h', toks := tk }) : wpAny (model PG w) A (eval e env) Q E s :=
  wpAny_tokQ (wpAny_mono h (fun v s₂ ⟨h', tk, e, F', N', hp⟩ htk => by subst e; exact cont v h' tk F' N' htk hp) fun _ _ e => e)
end
section
variable {w : World} {A : Around} {s : Shared} {K : Frag}
/-- no token is booked -/
theorem not_told {M : Model} {E : Value → Shared → Prop} {t : Tok} {Q : Bool → Shared → Prop} (X : K.In s.heap) (e : nsIn K cStatics sharingNotToldKey = some none) (h : Q false s) : wpAny M A (sharingNotTold t) Q E s := by
  unfold sharingNotTold
  exact wpAny_bind ((looks_nsIn X e).here (wpAny_pure h))
theorem same_floats {M : Model} {E : Value → Shared → Prop} {x y : UInt64} {t u : Tok} {Q : Bool → Shared → Prop} (X : K.In s.heap) (e : nsIn K cStatics sharingNotToldKey = some none) (ht : 0 < t) (hu : 0 < u)
    (h : ∀ b, (b = true → x = y ∨ t = u) → Q b s) : wpAny M A (isSame (.float x t) (.float y u)) Q E s := by
  show wpAny M A (isSame.created (x == y && !Float64.isNaN x) t u) Q E s
  unfold isSame.created
  have h0 : (t == 0 || u == 0) = false := by
    rw [beq_eq_false_iff_ne.mpr (Nat.ne_of_gt ht), beq_eq_false_iff_ne.mpr (Nat.ne_of_gt hu)]; rfl
  rw [h0]
  simp only [Bool.false_eq_true, if_false]
  by_cases htu : (t == u) = true
  · rw [if_pos htu]
    exact wpAny_pure (h _ fun _ => .inr (by simpa using htu))
  · rw [if_neg htu]
    by_cases hc : (x == y && !Float64.isNaN x) = true
    · rw [hc]
      simp only [Bool.not_true, Bool.false_eq_true, if_false]
      have hxy : x = y := by
        have := (Bool.and_eq_true_iff.mp hc).1
        simpa using this
      refine wpAny_bind (not_told X e ?_)
      simp only [Bool.false_eq_true, if_false]
      refine wpAny_bind (not_told X e ?_)
      simp only [Bool.false_eq_true, if_false]
      exact wpAny_bind (wpAny_rule (wpAny_bind (wpAny_askSetting (wpAny_pure (h _ fun _ => .inl hxy)))))
    · rw [Bool.eq_false_iff.mpr hc]
      simp only [Bool.not_false, if_true]
      exact wpAny_pure (h _ fun hb => by cases hb)
theorem eqAt_same {x : UInt64} {t u : Tok} (X : K.In s.heap) (e : nsIn K cStatics sharingNotToldKey = some none) (ht : 0 < t) (hu : 0 < u) (hc : (Float64.cmp x x == some Ordering.eq) = true) : EqAt A s (.float x t) (.float x u) true := fun prog w E Q h => by
  unfold eqBool
  refine wpAny_holding ?_
  refine wpAny_ite_split (fun _ => ?_) (fun _ => ?_)
  · exact wpAny_bind (wpAny_rule (wpAny_pure h))
  · dsimp only
    refine wpAny_bind (same_floats X e ht hu fun b _ => ?_)
    cases b with
    | true =>
      simp only [if_true]
      exact wpAny_pure h
    | false =>
      simp only [Bool.false_eq_true, if_false]
      refine wpAny_bind (show wpAny (model prog w) A (compareOp .Eq (.float x t) (.float x u)) _ E s from AutoFloatOps.eq_0 ?_)
      rw [hc]
      exact wpAny_truthy_bool h
theorem eqAt_diff {x y : UInt64} {t u : Tok} (X : K.In s.heap) (e : nsIn K cStatics sharingNotToldKey = some none) (ht : 0 < t) (hu : 0 < u) (htu : t ≠ u) (hxy : x ≠ y) (hc : (Float64.cmp x y == some Ordering.eq) = false) : EqAt A s (.float x t) (.float y u) false := fun prog w E Q h => by
  unfold eqBool
  refine wpAny_holding ?_
  refine wpAny_ite_split (fun hab => ?_) (fun _ => ?_)
  · have := eq_of_beq hab
    injection this with h1 h2
    exact absurd h1 hxy
  · dsimp only
    refine wpAny_bind (same_floats X e ht hu fun b hb => ?_)
    cases b with
    | true => rcases hb rfl with h | h; exact absurd h hxy; exact absurd h htu
    | false =>
      simp only [Bool.false_eq_true, if_false]
      refine wpAny_bind (show wpAny (model prog w) A (compareOp .Eq (.float x t) (.float y u)) _ E s from AutoFloatOps.eq_0 ?_)
      rw [hc]
      exact wpAny_truthy_bool h
theorem ne_tup3 {prog : Program} {w : World} {E : Value → Shared → Prop} {a b : Addr} {x y z : UInt64} {t1 t2 t3 u1 u2 u3 : Tok} {Q : Value → Shared → Prop} (X : K.In s.heap) (e : nsIn K cStatics sharingNotToldKey = some none) (ha : s.heap.get? a = some (tup3 x y z t1 t2 t3)) (hb : s.heap.get? b = some (tup3 x y z u1 u2 u3))
    (p1 : 0 < t1) (p2 : 0 < t2) (p3 : 0 < t3) (q1 : 0 < u1) (q2 : 0 < u2) (q3 : 0 < u3) (cx : (Float64.cmp x x == some Ordering.eq) = true) (cy : (Float64.cmp y y == some Ordering.eq) = true) (cz : (Float64.cmp z z == some Ordering.eq) = true) (hu : A.units < cLine)
    (h : Q (.bool false) s) : wpAny (model prog w) A (compareOp .NotEq (.ref a) (.ref b)) Q E s := by
  refine RcNeAt.tuples (e := fun _ => true) (items := #[.float x t1, .float y t2, .float z t3]) (items2 := #[.float x u1, .float y u2, .float z u3]) ⟨_, ha, rfl, 0, rfl⟩ ⟨_, hb, rfl, 0, rfl⟩ hu (fun j h1 h2 => ?_) prog w E Q h
  match j, h1, h2 with
  | 0, _, _ => exact eqAt_same X e p1 q1 cx
  | 1, _, _ => exact eqAt_same X e p2 q2 cy
  | 2, _, _ => exact eqAt_same X e p3 q3 cz
end
end Mine
end

section
open PySem PySem.W PySem.Calls PyProof.Rows PySem.Spec
namespace Mine
/-- a turn's end, the counter of tokens in the word -/
noncomputable def StepT (h₀ : Heap) (L : Addr) (wr : List Addr) (own : List (Addr × Obj)) (Jn : (Str → Option Value) → List (Addr × Obj) → Nat → Prop) (s₁ : Shared) (f : Flow) (s₂ : Shared) : Prop :=
  f = .next ∧ ∃ h' tk m₂ news₂, s₂ = { s₁ with heap := h', toks := tk } ∧ Fr h₀ L h' m₂ ∧ News h₀ L h' (own ++ news₂) ∧ (∀ p ∈ news₂, p.1 ∉ wr) ∧ Jn m₂ news₂ tk
/-- the end of a turn, as the walk shows it -/
noncomputable def TurnEndT (h₀ : Heap) (L : Addr) (s₁ : Shared) (I : Addr) (it : Obj) (J : (Str → Option Value) → List (Addr × Obj) → Nat → Prop) (f : Flow) (s₂ : Shared) : Prop :=
  f = .next ∧ ∃ h' tk m' news', s₂ = { s₁ with heap := h', toks := tk } ∧ Fr h₀ L h' m' ∧ News h₀ L h' ((I, it) :: news') ∧ (∀ p ∈ news', p.1 ≠ I) ∧ J m' news' tk
theorem TurnEndT.mk {h₀ : Heap} {s₁ : Shared} {L I : Addr} {it : Obj} {J : (Str → Option Value) → List (Addr × Obj) → Nat → Prop} {h' : Heap} {tk : Nat} {m' : Str → Option Value} {all news' : List (Addr × Obj)} (F : Fr h₀ L h' m') (N : News h₀ L h' all)
    (sub : ∀ p ∈ (I, it) :: news', p ∈ all) (off : ∀ p ∈ news', p.1 ≠ I) (r : J m' news' tk) : TurnEndT h₀ L s₁ I it J .next { s₁ with heap := h', toks := tk } := ⟨rfl, h', tk, m', news', rfl, F, fun p hp => N p (sub p hp), off, r⟩
noncomputable def LoopAtT (w : World) (A : Around) (h₀ : Heap) (env : Env) (x : Str) (body : List Stmt) (Q : Flow → Shared → Prop) (E : Value → Shared → Prop) (it : Value) (s₂ : Shared) : Prop :=
  ∃ (I : Addr) (fp wr : List Addr) (n : Nat) (P : Nat → Value → Prop) (St : Nat → Heap → Prop) (m : Str → Option Value) (news : List (Addr × Obj)) (J : Nat → (Str → Option Value) → List (Addr × Obj) → Nat → Prop),
    it = .ref I ∧ Walks PG w A I fp wr n P St ∧ env.locals ∉ fp ∧ (∀ b ∈ wr, h₀.get? b = none) ∧ (∀ p ∈ news, p.1 ∉ wr) ∧ St 0 s₂.heap ∧ Fr h₀ env.locals s₂.heap m ∧ News h₀ env.locals s₂.heap news ∧ J 0 m news s₂.toks ∧
    (∀ i m n tk tk', J i m n tk → tk ≤ tk' → J i m n tk') ∧
    (∀ i v m₁ news₁ s₁ own, (∃ h tk, s₁ = { s₂ with heap := h, toks := tk }) → i < n → P i v → J i m₁ news₁ s₁.toks → (∀ p ∈ news₁, p.1 ∉ wr) → (∀ p ∈ own, p.1 ∈ fp) → (∀ p ∈ own, s₁.heap.get? p.1 = some p.2) → (∀ b ∈ fp, h₀.get? b = none → ∀ o, s₁.heap.get? b = some o → (b, o) ∈ own) → St (i + 1) s₁.heap →
      Fr h₀ env.locals s₁.heap (fun y => if y = x then some v else m₁ y) → News h₀ env.locals s₁.heap (own ++ news₁) →
      wpAny (model PG w) A (execs body env) (StepT h₀ env.locals wr own (J (i + 1)) s₁) E s₁) ∧
    ∀ h' tk m' news', Fr h₀ env.locals h' m' → News h₀ env.locals h' news' → (∀ p ∈ news', p.1 ∉ wr) → J n m' news' tk → Q .next { s₂ with heap := h', toks := tk }

section
variable {w : World} {A : Around} {s : Shared} {env : Env} {h₀ : Heap}
theorem forLoopT {R : Result → Shared → Prop} {x : Str} {px : Pos} {body : List Stmt} {I : Addr} {fp wr : List Addr} {n : Nat} {P : Nat → Value → Prop} {St : Nat → Heap → Prop} {m : Str → Option Value}
    {news : List (Addr × Obj)} (W : Walks PG w A I fp wr n P St) (hx : env.kindOf x = some .local)
    (hp : (env.scope.kind == .class || (env.scope.kind == .module && env.locals != env.globals)) = false)
    (hLf : env.locals ∉ fp) (hwr : ∀ b ∈ wr, h₀.get? b = none) (hnw : ∀ p ∈ news, p.1 ∉ wr)
    (hst : St 0 s.heap) (F : Fr h₀ env.locals s.heap m) (N : News h₀ env.locals s.heap news)
    (J : Nat → (Str → Option Value) → List (Addr × Obj) → Nat → Prop) (h0 : J 0 m news s.toks) (mono : ∀ i m n tk tk', J i m n tk → tk ≤ tk' → J i m n tk')
    (step : ∀ i v m₁ news₁ s₁ own, (∃ h tk, s₁ = { s with heap := h, toks := tk }) → i < n → P i v → J i m₁ news₁ s₁.toks → (∀ p ∈ news₁, p.1 ∉ wr) → (∀ p ∈ own, p.1 ∈ fp) → (∀ p ∈ own, s₁.heap.get? p.1 = some p.2) → (∀ b ∈ fp, h₀.get? b = none → ∀ o, s₁.heap.get? b = some o → (b, o) ∈ own) → St (i + 1) s₁.heap →
      Fr h₀ env.locals s₁.heap (fun y => if y = x then some v else m₁ y) → News h₀ env.locals s₁.heap (own ++ news₁) →
      wpAny (model PG w) A (execs body env) (StepT h₀ env.locals wr own (J (i + 1)) s₁) (notedBy (model PG w) A env fun e s' => R (.error e) s') s₁)
    (hR : ∀ h' tk m' news', Fr h₀ env.locals h' m' → News h₀ env.locals h' news' → (∀ p ∈ news', p.1 ∉ wr) → J n m' news' tk → R (.ok .next) { s with heap := h', toks := tk }) :
    codeAny (model PG w) A (.forLoop (.Name x px) (.ref I) body [] env) R s := by
  have hLw : env.locals ∉ wr := fun h => hLf (W.sub _ h)
  have old : ∀ b o, h₀.get? b = some o → b ∉ wr := fun b o e hb => by rw [hwr b hb] at e; cases e
  refine codeAny_forLoop
    (fun k s' => ∃ h' tk m' news' i, s' = { s with heap := h', toks := tk } ∧ St i h' ∧ Fr h₀ env.locals h' m' ∧ News h₀ env.locals h' news' ∧ (∀ p ∈ news', p.1 ∉ wr) ∧ J i m' news' tk ∧ i ≤ n ∧ k = n + 1 - i) ?_ (n + 1)
    ⟨s.heap, s.toks, m, news, 0, rfl, hst, F, N, hnw, h0, Nat.zero_le _, rfl⟩
  rintro k s' ⟨h', tk, m', news', i, rfl, hst', F', N', hnw', hJ, hi, rfl⟩
  have next : ∀ h₁ : Heap, (∀ b o, b ∉ wr → h'.get? b = some o → h₁.get? b = some o) → Fr h₀ env.locals h₁ m' ∧ News h₀ env.locals h₁ news' := fun h₁ hk₁ =>
    ⟨⟨F'.ns.at' fun o e => hk₁ _ o hLw e, fun b o e => hk₁ b o (old b o e) (F'.keep b o e), F'.above⟩, fun p hp => ⟨hk₁ _ _ (hnw' p hp) (N' p hp).1, (N' p hp).2⟩⟩
  by_cases hlt : i < n
  · refine wpAny_tokQ (W.item i _ _ _ hlt hst' fun v h₁ tk₁ hP hst₁ hk₁ htk => ?_)
    obtain ⟨F₁, N₁⟩ := next h₁ hk₁
    refine wpAny_tokQ (wpAny_assign_Name (wpAny_storeName_local hx F₁.ns (fun h₂ hn₂ hs₂ htk₂ => ?_) hp))
    have F₂ := F₁.set hn₂ hs₂
    have Nown : News h₀ env.locals h₂ (ownOf h₀ fp h₂) := news_ownOf hLf
    have hst₂ : St (i + 1) h₂ := W.frame _ _ _ hst₁ fun b hb o e => (hs₂.2 b fun q => hLf (q ▸ hb)).trans e
    refine wpAny_mono (step i v m' news' _ (ownOf h₀ fp h₂) ⟨_, _, rfl⟩ hlt hP (mono _ _ _ _ _ hJ (Nat.le_trans htk htk₂)) hnw' ownOf_sub (fun p hp => (Nown p hp).1) (fun b hb hn o e => mem_ownOf hb hn e) hst₂ F₂ (Nown.append (N₁.set hs₂))) (fun f s₃ h₃ => ?_) fun _ _ e => e
    obtain ⟨rfl, h₃', tk₃, m₂, news₂, rfl, F₃, N₃, ha₃, hJ₃⟩ := h₃
    refine ⟨n + 1 - (i + 1), by omega, h₃', tk₃, m₂, news₂, i + 1, rfl, ?_, F₃, N₃.right, ha₃, hJ₃, hlt, rfl⟩
    refine W.frame _ _ _ hst₁ fun b hb o e => ?_
    have e₂ : h₂.get? b = some o := (hs₂.2 b fun q => hLf (q ▸ hb)).trans e
    cases hn : h₀.get? b with
    | some o₀ =>
      have : o₀ = o := by have := F₂.keep b o₀ hn; rw [e₂] at this; exact (Option.some.inj this).symm
      exact this ▸ F₃.keep b o₀ hn
    | none => exact (N₃ _ (List.mem_append_left _ (mem_ownOf hb hn e₂))).1
  · have hin : i = n := by omega
    subst hin
    refine wpAny_tokQ (W.done _ _ _ hst' fun h₁ tk₁ hk₁ htk => wpAny_execs_nil ?_)
    obtain ⟨F₁, N₁⟩ := next h₁ hk₁
    exact hR h₁ tk₁ m' news' F₁ N₁ hnw' (mono _ _ _ _ _ hJ htk)
theorem For_T {E : Value → Shared → Prop} {Q : Flow → Shared → Prop} {x : Str} {px pos : Pos} {iter : Expr} {body : List Stmt} (h₀ : Heap) (hx : env.kindOf x = some .local)
    (hp : (env.scope.kind == .class || (env.scope.kind == .module && env.locals != env.globals)) = false)
    (h : wpAny (model PG w) A (eval iter env) (fun xv s₁ => wpAny (model PG w) A (pyIter xv) (fun it s₂ => LoopAtT w A h₀ env x body Q E it s₂) E s₁) E s)
    (hs : ∀ x, foldedSetIterable iter env x = pure x)
    (hE : PassesOwn (model PG w) A env E) :
    wpAny (model PG w) A (exec (.For (.Name x px) iter body [] pos) env) Q E s := by
  refine wpAny_For (wpAny_mono h (fun xv s₁ h₁ => wpAny_mono h₁ (fun it s₂ h₂ => ?_) fun _ _ e => e) fun _ _ e => e) hs
  obtain ⟨I, fp, wr, n, P, St, m, news, J, rfl, W, hLf, hwr, hnw, hst, F, N, h0, mono, step, hQ⟩ := h₂
  exact forLoopT (R := fun r s' => match r with | .ok f => Q f s' | .error e => cameBackBy (model PG w) A env E e s') W hx hp hLf hwr hnw hst F N J h0 mono (by intros; exact wpAny_passesOwn hE (by apply step <;> assumption)) hQ

/-- a loop over a list of the ledger by a word J that sees the counter of tokens -/
theorem iterT_list {E : Value → Shared → Prop} {Q : Flow → Shared → Prop} {x : Str} {body : List Stmt} {ax : Addr} {lo : Obj} {vs : List Value} {n : Nat} {m₀ : Str → Option Value} {news : List (Addr × Obj)} (J : Nat → (Str → Option Value) → List (Addr × Obj) → Nat → Prop)
    (hh : A.handled = none) (F : Fr h₀ env.locals s.heap m₀) (N : News h₀ env.locals s.heap news) (hm : (ax, lo) ∈ news) (hc : lo.cls = .type "list") (hd : lo.data = .seq vs.toArray n) (hlp : ∀ i m news tk, J i m news tk → (ax, lo) ∈ news) (hj : J 0 m₀ news s.toks)
    (mono : ∀ i m n tk tk', J i m n tk → tk ≤ tk' → J i m n tk')
    (turn : ∀ I i v m news it h tk, vs[i]? = some v → J i m news tk → (∀ p ∈ news, p.1 ≠ I) → Fr h₀ env.locals h (fun y => if y = x then some v else m y) →
      News h₀ env.locals h ((I, it) :: news) →
      wpAny (model PG w) A (execs body env) (TurnEndT h₀ env.locals { s with heap := h, toks := tk } I it (J (i + 1))) E { s with heap := h, toks := tk })
    (done : ∀ m news h tk, J vs.length m news tk → Fr h₀ env.locals h m → News h₀ env.locals h news → Q .next { s with heap := h, toks := tk }) :
    wpAny (model PG w) A (pyIter (.ref ax)) (fun it s₂ => LoopAtT w A h₀ env x body Q E it s₂) E s := by
  have hax := N _ hm
  have hl : s.heap.IsList ax vs.toArray := ⟨lo, hax.1, hc, n, hd⟩
  have hlt : ax < s.heap.objs.size := Heap.lt_size hax.1
  have hne : ax ≠ s.heap.objs.size := Nat.ne_of_lt hlt
  refine wpAny_pyIter_list hl ?_
  have W := Walks.list (prog := PG) (w := w) hh s.heap.objs.size ax hne vs.toArray
  have hnew := next_is_new F
  have hlen : vs.toArray.size = vs.length := by simp
  rw [hlen] at W
  refine ⟨_, _, _, vs.length, _, _, m₀, news, J, rfl, W, ?_, ?_, ?_, ⟨⟨_, Heap.get?_push_size _ rfl, rfl, rfl⟩, hl.at fun o e => Heap.get?_push_of_some _ e⟩, F.push _, (fun p hp => ⟨Heap.get?_push_of_some _ (N p hp).1, (N p hp).2⟩), hj, mono, ?_, ?_⟩
  · intro hmm
    rcases List.mem_cons.mp hmm with e | hmm
    · exact absurd F.ns.lt (e ▸ Nat.lt_irrefl _)
    · exact hax.2.1 (List.mem_singleton.mp hmm).symm
  · intro b hb
    rw [List.mem_singleton.mp hb]
    exact hnew
  · intro p hp hI
    exact absurd (Heap.lt_size (N p hp).1) ((List.mem_singleton.mp hI) ▸ Nat.lt_irrefl _)
  · rintro i v m₁ news₁ s₁ own ⟨hh', tk', rfl⟩ hin hP hJ hoff hown hget hall hst F₁ N₁
    obtain ⟨it, hit, hic, hid⟩ := hst.1
    have hmem₁ := hlp _ _ _ _ hJ
    have hmemI := hall s.heap.objs.size (List.mem_cons_self ..) hnew _ hit
    have hv : vs[i]? = some v := by simpa using hP
    have N₂ : News h₀ env.locals hh' ((s.heap.objs.size, it) :: news₁) := fun p hp => by
      rcases List.mem_cons.mp hp with rfl | hp
      · exact N₁ _ (List.mem_append_left _ hmemI)
      · exact N₁ _ (List.mem_append_right _ hp)
    refine wpAny_mono (turn s.heap.objs.size i v m₁ news₁ it hh' tk' hv hJ (fun p hp e => hoff p hp (by rw [e]; exact .head _)) F₁ N₂) (fun f s₂ p => ?_) fun _ _ e => e
    obtain ⟨rfl, h', tk, m', news', e, F', N', ho, hJ'⟩ := p
    have hmm := hlp _ _ _ _ hJ'
    refine ⟨rfl, h', tk, m', news', e, F', fun p hp => ?_, fun p hp hI => ho p hp (List.mem_singleton.mp hI), hJ'⟩
    rcases List.mem_append.mp hp with hp | hp
    · have h2 : hh'.get? p.1 = some p.2 := hget p hp
      rcases List.mem_cons.mp (hown p hp) with h1 | h1
      · have h3 : p = (s.heap.objs.size, it) := by
          rw [h1, hit] at h2
          exact Prod.ext h1 (Option.some.inj h2).symm
        rw [h3]; exact N' _ (List.mem_cons_self ..)
      · have h1' : p.1 = ax := List.mem_singleton.mp h1
        have h3 : p = (ax, lo) := by
          rw [h1', (N₁ _ (List.mem_append_right _ hmem₁)).1] at h2
          exact Prod.ext h1' (Option.some.inj h2).symm
        rw [h3]; exact N' _ (List.mem_cons_of_mem _ hmm)
    · exact N' _ (List.mem_cons_of_mem _ hp)
  · intro h' tk m' news' F' N' _ hJ
    exact done m' news' h' tk hJ F' N'
end
end Mine
end

section
open PySem PySem.W PySem.Calls PyProof.Rows
namespace Mine
theorem booked_none (w : World) : nsIn (heapK w.params) cStatics sharingNotToldKey = some none := by k_is
section
variable {w : World} {A₀ A : Around} {s : Shared} {base h₀ : Heap} {outer : List Env} {L : Addr} {m mg mb : Str → Option Value} {mean : ExcName → Option Value} {env : Env}
  {R : Result → Shared → Prop} {name qual : Str} {params : Arguments} {body : List Stmt} {scope : Scope} {dV kV doc pm cdv ct oc : Value} {an od : Option Addr} {osl : Array (Option Value)} {f : Addr} {args : Args} {binds : List (Str × Value)}
theorem call_flatK (bm : Str → Option Value) (G : Gr w mean mg mb A base (env :: outer) s.heap)
    (ho : (heapK w.params).lookup f = some ⟨oc, od, .func (fnOf name qual params body scope dV kV doc pm an cdv ct), osl⟩) (hcd : codeIn (heapK w.params) cdv qual = true) (hroom : A.depth < recursionLimit)
    (hbind : BindsTo s (fnOf name qual params body scope dV kV doc pm an cdv ct) args binds) (hloc : ∀ y ∈ binds, scope.names.lookup y.1 = some .local) (hbm : (fun y => binds.reverse.lookup y) = bm)
    (h : ∀ L' h₁ tk, s.toks ≤ tk → Fr s.heap L' h₁ bm →
      wpAny (model PG w) (A.deeper (envOf qual scope L' f cdv)) (execs body (envOf qual scope L' f cdv))
        (fun fl s' => R (.ok (.ret (match fl with | .ret v => v | _ => .none))) s')
        (fun e s' => wpAny (model PG w) (A.deeper (envOf qual scope L' f cdv)) (leaving (envOf qual scope L' f cdv) e) (fun _ s'' => R (.error e) s'') (fun e' s'' => R (.error e') s'') s')
        { s with heap := h₁, toks := tk })
    (hco : scope.isCoroutine = false) (hgen : scope.isGenerator = false) (hk : scope.kind = .function)
    (hcell : ∀ x ∈ scope.names, x.2 ≠ .cell) : codeAny (model PG w) A (.call (.ref f) args) R s :=
  codeAny_call_def (fd := fnOf name qual params body scope dV kV doc pm an cdv ct) (body := body) (binds := binds) hroom (G.X _ _ ho) rfl G.T.nolimit (codeRec_of G.X hcd) rfl hbind hcell hloc
    (fun h₁ hns hk₁ => h _ h₁ _ (by omega) ⟨hbm ▸ hns, hk₁, Nat.le_refl _⟩) hco hgen hk
end

theorem ret_endT {s : Shared} {L : Addr} {m : Str → Option Value} {Q : Value → Shared → Prop} {Post : Value → List (Addr × Obj) → Nat → Prop} {news new : List (Addr × Obj)} {v : Value} {h' : Heap} {tk' : Nat}
    (ret : RetToT s Q Post) (F : Fr s.heap L h' m) (N : News s.heap L h' news) (hs : ∀ p ∈ new, p ∈ news) (hp : Post v new tk') : Q v { s with heap := h', toks := tk' } :=
  ret v h' tk' new F.keep (fun p hp => ⟨(N p (hs p hp)).1, (N p (hs p hp)).2.2⟩) hp
theorem gen_toks {α : Type} {M : Model} {A : Around} {t : Sem α} {Q : α → Shared → Prop} {E : Value → Shared → Prop} {hp : Heap} {gs : Array GenState} {dr : Drawn} {tk : Nat} {os : OsState}
    (h : ∀ n, n = tk → wpAny M A t Q E ⟨hp, gs, dr, n, os⟩) : wpAny M A t Q E ⟨hp, gs, dr, tk, os⟩ := h _ rfl
/-- three floats, their tokens told -/
noncomputable def IsTup3T (v : Value) (new : List (Addr × Obj)) (r g b : UInt64) (P : Nat → Nat → Nat → Prop) : Prop := ∃ a u1 u2 u3, v = .ref a ∧ new = [(a, tup3 r g b u1 u2 u3)] ∧ P u1 u2 u3
theorem IsTup3T.mk {a : Addr} {r g b : UInt64} {u1 u2 u3 : Tok} {P : Nat → Nat → Nat → Prop} (h : P u1 u2 u3) : IsTup3T (.ref a) [(a, tup3 r g b u1 u2 u3)] r g b P := ⟨_, _, _, _, rfl, rfl, h⟩
local macro_rules | `(tactic| walk_at "execs cons") => `(tactic| (k_here; (try dsimp only); (with_reducible show wpAny _ _ (execs _ _) _ _ (Shared.mk _ _ _ (_ + 1) _)); (with_reducible refine gen_toks ?_); intro tk hqt; (try dsimp only at hqt)))
local macro_rules | `(tactic| walk_at "execs nil") => `(tactic| (k_here; (try dsimp only); (with_reducible show wpAny _ _ (execs _ _) _ _ (Shared.mk _ _ _ (_ + 1) _)); (with_reducible refine gen_toks ?_); intro tk hqt; (try dsimp only at hqt)))
local macro_rules | `(tactic| walk_at "call type:int") => `(tactic| (k_here; (with_reducible show wpAny _ _ (call _ [Value.float _ _]) _ _ _); refine call_int_n (by assumption) ?_; dsimp only))

set_option maxRecDepth 100000 in
set_option maxHeartbeats 4000000 in
theorem c_hsvT {w : World} {mean : ExcName → Option Value} {mg mb : Str → Option Value} {base : Heap} {env : Env} {outer : List Env} {s : Shared} {x y z : UInt64} {t1 t2 t3 : Tok} {n : Int} {Q E : Value → Shared → Prop}
    (G : Gr w mean mg mb (AX 320 1000 env outer) base (env :: outer) s.heap) (p3 : @LT.lt Nat _ 0 t3) (ps : 0 < s.toks) (hy : (Float64.cmp y 0 == some Ordering.eq) = false) (hn : toI (Float64.mul x 4618441417868443648) = some n) (h0 : 0 ≤ n) (h24 : n < 24)
    (ret : RetToT s Q fun v new tk => ∃ r g b, hsvF x y z n = (r, g, b) ∧ IsTup3T v new r g b fun u1 u2 u3 => 0 < u1 ∧ 0 < u2 ∧ 0 < u3) : wpAny (model PG w) (AX 320 1000 env outer) (call (.ref 42) [.float x t1, .float y t2, .float z t3]) Q E s := by
  w_on
  have B' := G.B
  have X' := G.X
  have T' := G.T
  refine wpAny_call ?_
  refine' call_flatK (f := 42) (fun q9 => if q9 = Str.ofString "h" then some (Value.float x t1) else if q9 = Str.ofString "s" then some (Value.float y t2) else if q9 = Str.ofString "v" then some (Value.float z t3) else none) G ?k6 ?k7 ?k8 ?k9 ?kB ?kM ?_ ?c2 ?c3 ?c4 ?c5
  (case k6 => k_is)
  (case k7 => k_is)
  (case k8 => exact Nat.le_of_ble_eq_true rfl)
  (case k9 => exact BindsTo.of_eq rfl)
  (case c5 => decide)
  (case kB => exact locs rfl)
  (case kM => (refine binds_3 rfl ?_ ?_ ?_ <;> decide))
  (case c2 => exact rfl)
  (case c3 => exact rfl)
  (case c4 => exact rfl)
  intro L' h' tk' htk F'
  have N' : News s.heap L' h' [] := News.nil
  k_steps
  all_goals first
    | (exfalso; have := Int.fmod_eq_emod_of_nonneg n (show (0 : Int) ≤ 6 by decide); omega)
    | (refine ret_endT (s := s) (new := [(_, _)]) ret (by assumption) (by assumption) (fun p hp => hp) ⟨_, _, _, ?_, IsTup3T.mk ?_⟩
       · (simp only [hsvF, *]; try rfl)
       · ((try dsimp only); exact ⟨by first | exact Nat.succ_pos _ | assumption, by first | exact Nat.succ_pos _ | assumption, by first | exact Nat.succ_pos _ | assumption⟩))

section
variable {w : World} {A : Around} {E : Value → Shared → Prop} {s : Shared} {Q : Value → Shared → Prop} {x y z : UInt64} {t u r : Tok} {h₀ : Heap} {L : Addr} {m : Str → Option Value} {news : List (Addr × Obj)}
theorem max3_ffT (hh : A.handled = none) (F : Fr h₀ L s.heap m) (N : News h₀ L s.heap news)
    (h : ∀ h' tk v, s.toks ≤ tk → (@Eq Nat v t ∨ @Eq Nat v u ∨ @Eq Nat v r) → Fr h₀ L h' m → News h₀ L h' news → Q (.float (max3F x y z) v) { s with heap := h', toks := tk }) :
    wpAny (model PG w) A (call (.builtin "max") [.float x t, .float y u, .float z r]) Q E s := by
  refine wpAny_tokQ (max_three_num hh (.float x t) (.float y u) (.float z r) fun h' tk kp htk => ?_)
  have hx := fun v hv => h h' tk v htk hv (F.grownK kp) (N.grown kp)
  show Q (if ltF x y = true then (if ltF y z = true then Value.float z r else Value.float y u) else (if ltF x z = true then Value.float z r else Value.float x t)) _
  simp only [max3F] at hx
  by_cases h1 : ltF x y = true
  · rw [if_pos h1]
    simp only [if_pos h1] at hx
    by_cases h2 : ltF y z = true
    · rw [if_pos h2]; simp only [if_pos h2] at hx; exact hx _ (.inr (.inr rfl))
    · rw [if_neg h2]; simp only [if_neg h2] at hx; exact hx _ (.inr (.inl rfl))
  · rw [if_neg h1]
    simp only [if_neg h1] at hx
    by_cases h2 : ltF x z = true
    · rw [if_pos h2]; simp only [if_pos h2] at hx; exact hx _ (.inr (.inr rfl))
    · rw [if_neg h2]; simp only [if_neg h2] at hx; exact hx _ (.inl rfl)
theorem min3_ffT (hh : A.handled = none) (F : Fr h₀ L s.heap m) (N : News h₀ L s.heap news)
    (h : ∀ h' tk v, s.toks ≤ tk → Fr h₀ L h' m → News h₀ L h' news → Q (.float (min3F x y z) v) { s with heap := h', toks := tk }) :
    wpAny (model PG w) A (call (.builtin "min") [.float x t, .float y u, .float z r]) Q E s :=
  wpAny_tokQ (min3_ff hh F N fun h' tk v F' N' htk => h h' tk v htk F' N')
end
local macro_rules | `(tactic| walk_at "call builtin:max") => `(tactic| (k_here; (with_reducible show wpAny _ _ (call _ [Value.float _ _, Value.float _ _, Value.float _ _]) _ _ _); refine' max3_ffT rfl ?k1 ?k2 ?_; (case k1 => k_asm); (case k2 => k_asm); intro h' tk' v' hq1 hq2 F' N'; (try k_sweep); (try dsimp only)))
local macro_rules | `(tactic| walk_at "call builtin:min") => `(tactic| (k_here; (with_reducible show wpAny _ _ (call _ [Value.float _ _, Value.float _ _, Value.float _ _]) _ _ _); refine' min3_ffT rfl ?k1 ?k2 ?_; (case k1 => k_asm); (case k2 => k_asm); intro h' tk' v' hq1 F' N'; (try k_sweep); (try dsimp only)))

set_option maxRecDepth 100000 in
set_option maxHeartbeats 4000000 in
theorem c_rgbT {w : World} {mean : ExcName → Option Value} {mg mb : Str → Option Value} {base : Heap} {env : Env} {outer : List Env} {s : Shared} {x y z : UInt64} {t1 t2 t3 : Tok} {Q E : Value → Shared → Prop}
    (G : Gr w mean mg mb (AX 320 1000 env outer) base (env :: outer) s.heap) (p1 : @LT.lt Nat _ 0 t1) (p2 : @LT.lt Nat _ 0 t2) (p3 : @LT.lt Nat _ 0 t3) (ps : 0 < s.toks) (hne : (Float64.cmp (min3F x y z) (max3F x y z) == some Ordering.eq) = false) (hz : Float64.isZero (max3F x y z) = false) (hr : Float64.isZero (Float64.sub (max3F x y z) (min3F x y z)) = false)
    (ret : RetToT s Q fun v new tk => IsTup3T v new (hueF x y z) (Float64.div (rangeF x y z) (max3F x y z)) (max3F x y z) fun u1 u2 u3 => s.toks ≤ u1 ∧ u1 < tk ∧ 0 < u2 ∧ 0 < u3) : wpAny (model PG w) (AX 320 1000 env outer) (call (.ref 35) [.float x t1, .float y t2, .float z t3]) Q E s := by
  w_on
  have B' := G.B
  have X' := G.X
  have T' := G.T
  refine wpAny_call ?_
  refine' call_flatK (f := 35) (fun q9 => if q9 = Str.ofString "r" then some (Value.float x t1) else if q9 = Str.ofString "g" then some (Value.float y t2) else if q9 = Str.ofString "b" then some (Value.float z t3) else none) G ?k6 ?k7 ?k8 ?k9 ?kB ?kM ?_ ?c2 ?c3 ?c4 ?c5
  (case k6 => k_is)
  (case k7 => k_is)
  (case k8 => exact Nat.le_of_ble_eq_true rfl)
  (case k9 => exact BindsTo.of_eq rfl)
  (case c5 => decide)
  (case kB => exact locs rfl)
  (case kM => (refine binds_3 rfl ?_ ?_ ?_ <;> decide))
  (case c2 => exact rfl)
  (case c3 => exact rfl)
  (case c4 => exact rfl)
  intro L' h' tk' htk F'
  have N' : News s.heap L' h' [] := News.nil
  k_steps
  all_goals refine ret_endT (s := s) (new := [(_, _)]) ret (by assumption) (by assumption) (fun p hp => hp) ?_
  · rw [hueF_x ‹_›]; exact IsTup3T.mk (by (try dsimp only at *); omega)
  · rw [hueF_y ‹_› ‹_›]; exact IsTup3T.mk (by (try dsimp only at *); omega)
  · rw [hueF_z ‹_› ‹_›]; exact IsTup3T.mk (by (try dsimp only at *); omega)

set_option maxRecDepth 100000 in
set_option maxHeartbeats 4000000 in
theorem c_hlsT {w : World} {mean : ExcName → Option Value} {mg mb : Str → Option Value} {base : Heap} {env : Env} {outer : List Env} {s : Shared} {x y z : UInt64} {t1 t2 t3 : Tok} {Q E : Value → Shared → Prop}
    (G : Gr w mean mg mb (AX 320 1000 env outer) base (env :: outer) s.heap) (p1 : @LT.lt Nat _ 0 t1) (p2 : @LT.lt Nat _ 0 t2) (p3 : @LT.lt Nat _ 0 t3) (ps : 0 < s.toks) (hne : (Float64.cmp (min3F x y z) (max3F x y z) == some Ordering.eq) = false) (hz : Float64.isZero (Float64.add (max3F x y z) (min3F x y z)) = false) (hz2 : Float64.isZero (Float64.sub (Float64.sub 4611686018427387904 (max3F x y z)) (min3F x y z)) = false) (hr : Float64.isZero (Float64.sub (max3F x y z) (min3F x y z)) = false)
    (ret : RetToT s Q fun v new tk => IsTup3T v new (hueF x y z) (lightF x y z) (satF x y z) fun u1 u2 u3 => s.toks ≤ u1 ∧ u1 < tk ∧ 0 < u2 ∧ 0 < u3) : wpAny (model PG w) (AX 320 1000 env outer) (call (.ref 28) [.float x t1, .float y t2, .float z t3]) Q E s := by
  w_on
  have B' := G.B
  have X' := G.X
  have T' := G.T
  refine wpAny_call ?_
  refine' call_flatK (f := 28) (fun q9 => if q9 = Str.ofString "r" then some (Value.float x t1) else if q9 = Str.ofString "g" then some (Value.float y t2) else if q9 = Str.ofString "b" then some (Value.float z t3) else none) G ?k6 ?k7 ?k8 ?k9 ?kB ?kM ?_ ?c2 ?c3 ?c4 ?c5
  (case k6 => k_is)
  (case k7 => k_is)
  (case k8 => exact Nat.le_of_ble_eq_true rfl)
  (case k9 => exact BindsTo.of_eq rfl)
  (case c5 => decide)
  (case kB => exact locs rfl)
  (case kM => (refine binds_3 rfl ?_ ?_ ?_ <;> decide))
  (case c2 => exact rfl)
  (case c3 => exact rfl)
  (case c4 => exact rfl)
  intro L' h' tk' htk F'
  have N' : News s.heap L' h' [] := News.nil
  k_steps
  all_goals refine ret_endT (s := s) (new := [(_, _)]) ret (by assumption) (by assumption) (fun p hp => hp) ?_
  · rw [satF_lo ‹_›, hueF_x ‹_›]; exact IsTup3T.mk (by (try dsimp only at *); omega)
  · rw [satF_lo ‹_›, hueF_y ‹_› ‹_›]; exact IsTup3T.mk (by (try dsimp only at *); omega)
  · rw [satF_lo ‹_›, hueF_z ‹_› ‹_›]; exact IsTup3T.mk (by (try dsimp only at *); omega)
  · rw [satF_hi ‹_›, hueF_x ‹_›]; exact IsTup3T.mk (by (try dsimp only at *); omega)
  · rw [satF_hi ‹_›, hueF_y ‹_› ‹_›]; exact IsTup3T.mk (by (try dsimp only at *); omega)
  · rw [satF_hi ‹_›, hueF_z ‹_› ‹_›]; exact IsTup3T.mk (by (try dsimp only at *); omega)
end Mine
end

section
open PySem PySem.W PySem.Calls PyProof.Rows PySem.SeqAt
namespace Mine
/-- the answers known, the sort's run -/
noncomputable def runO {α : Type} (lt : Nat → Nat → Bool) (n : Nat) : KasT α → Option α
  | .ret a => some a
  | .ask i j k => if i < n ∧ j < n ∧ i ≠ j then runO lt n (k (lt i j)) else none
theorem kas_known {α : Type} {cmp : Nat → Nat → (Bool → Shared → Prop) → Shared → Prop} {n : Nat} {lt : Nat → Nat → Bool} {s : Shared} (hc : ∀ i j C, i < n → j < n → i ≠ j → C (lt i j) s → cmp i j C s) {Q : α → Shared → Prop} :
    ∀ (t : KasT α) (r : α), runO lt n t = some r → Q r s → t.kasWp cmp Q s
  | .ret a, r, h, q => by
    cases h; exact q
  | .ask i j k, r, h, q => by
    unfold runO at h
    split at h
    · rename_i hij
      exact hc i j _ hij.1 hij.2.1 hij.2.2 (kas_known hc (k (lt i j)) r h q)
    · cases h
noncomputable def ordL : List Nat := [5, 2, 7, 4, 1, 6, 3, 0]
theorem sort_run : runO (fun i j => decide (ordL.getD i 0 < ordL.getD j 0)) 8 (kas_sort 8) = some #[7, 4, 1, 6, 3, 0, 5, 2] := by decide +kernel
section
variable {prog : Program} {w : World} {A : Around} {E : Value → Shared → Prop} {s : Shared}
theorem call_float_lt {a b : UInt64} {t u : Tok} {Q : Value → Shared → Prop} (h : Q (.bool (Float64.cmp a b == some Ordering.lt)) s) : wpAny (model prog w) A (call (.builtin "float.__lt__") [.float a t, .float b u]) Q E s :=
  call_gives F.slot_float_lt rfl F.entry_float_lt (F.args_float_lt_2 _ _) (AutoFloatG5.float___lt___float_float_0 a t b u) h
theorem oneLt_float {a b : UInt64} {t u : Tok} {Q : Bool → Shared → Prop} (h : Q (Float64.cmp a b == some Ordering.lt) s) : wpAny (model prog w) A (oneLt' true (.float a t) (.float b u)) Q E s := by
  rw [oneLt'_eq]
  simp only [if_true]
  refine wpAny_bind (wpAny_cRoomFor_byValue rfl ?_)
  refine wpAny_bind (wpAny_callSpecialIfBound?_slot (typeIs_float s a t) F.slot_float_lt (call_float_lt ?_))
  exact wpAny_truthy_bool h
abbrev tup2 (x : UInt64) (y : Str) (t u : Tok) : Obj := { cls := .type "tuple", data := .seq #[.float x t, .str y u] }
/-- eight pairs of a hue and a sign, made in the order of ordL -/
structure Pairs (h : Heap) (vs : List Value) (sm : List Int) (sg : Nat → Str) : Prop where
  n8 : vs.length = 8
  at' : ∃ (a : Nat → Addr) (t u : Nat → Tok), (∀ i, i < 8 → vs[i]? = some (.ref (a i)) ∧ h.get? (a i) = some (tup2 (hueJ (plJ sm (ordL.getD i 0))) (sg (ordL.getD i 0)) (t i) (u i)) ∧ @LT.lt Nat _ 0 (t i)) ∧
    ∀ i j, i < 8 → j < 8 → i ≠ j → @Ne Nat (t i) (t j)
theorem Pairs.keeps {h h' : Heap} {vs : List Value} {sm : List Int} {sg : Nat → Str} (P : Pairs h vs sm sg) (hk : h.StaysIn h') : Pairs h' vs sm sg := by
  obtain ⟨n8, a, t, u, h1, h2⟩ := P
  exact ⟨n8, a, t, u, fun i hi => ⟨(h1 i hi).1, hk _ _ (h1 i hi).2.1, (h1 i hi).2.2⟩, h2⟩
theorem ordL_lt : ∀ i, i < 8 → ordL.getD i 0 < 8 := by decide
theorem ordL_inj : ∀ i, i < 8 → ∀ j, j < 8 → i ≠ j → ordL.getD i 0 ≠ ordL.getD j 0 := by decide
theorem plJ_lt {sm : List Int} {k k' : Nat} : k ≠ k' → (plJ sm k < plJ sm k' ↔ k < k') := by
  intro h
  unfold plJ
  have he := Int.fmod_eq_emod_of_nonneg (sm.getD k 0) (show (0 : Int) ≤ 2 by decide)
  have he' := Int.fmod_eq_emod_of_nonneg (sm.getD k' 0) (show (0 : Int) ≤ 2 by decide)
  omega
theorem hueJ_inj {i j : Int} (i0 : 0 ≤ i) (i1 : i < 16) (j0 : 0 ≤ j) (j1 : j < 16) (h : i ≠ j) : hueJ i ≠ hueJ j := fun e => by
  have := hue_lt i0 i1 j0 j1
  rw [e, hue_lt j0 j1 j0 j1, if_neg (by omega), if_pos rfl] at this
  by_cases h' : i < j
  · rw [if_pos h'] at this; cases this
  · rw [if_neg h', if_neg h] at this; cases this
/-- the question of the sort, answered -/
theorem ask_pairs {w : World} {K : Frag} {vs : List Value} {sm : List Int} {sg : Nat → Str} {i j : Nat} {C : Bool → Shared → Prop} (X : K.In s.heap) (e : nsIn K cStatics sharingNotToldKey = some none) (P : Pairs s.heap vs sm sg) (hi : i < 8) (hj : j < 8) (hij : i ≠ j)
    (h : C (decide (ordL.getD i 0 < ordL.getD j 0)) s) : kas_ask PG w A (tuples' true) vs i j C s := by
  obtain ⟨n8, a, t, u, h1, h2⟩ := P
  obtain ⟨v1, g1, p1⟩ := h1 i hi
  obtain ⟨v2, g2, p2⟩ := h1 j hj
  unfold kas_ask
  rw [List.getD_eq_getElem?_getD, List.getD_eq_getElem?_getD, v1, v2]
  have b1 := plJ_bd (sm := sm) (ordL_lt i hi)
  have b2 := plJ_bd (sm := sm) (ordL_lt j hj)
  have hk := ordL_inj i hi j hj hij
  have hne : plJ sm (ordL.getD i 0) ≠ plJ sm (ordL.getD j 0) := fun e => by
    rcases Nat.lt_or_gt_of_ne hk with h | h
    · have := (plJ_lt (sm := sm) hk).mpr h; omega
    · have := (plJ_lt (sm := sm) (Ne.symm hk)).mpr h; omega
  refine kat_lt g1 rfl g2 rfl (kat_cons ?_)
  refine eqAt_diff X e p1 p2 (h2 i j hi hj hij) (hueJ_inj b1.1 b1.2 b2.1 b2.2 hne) (by rw [hue_lt b1.1 b1.2 b2.1 b2.2, if_neg hne]; split <;> rfl) _ _ _ _ (kat_no ?_)
  refine oneLt_float ?_
  rw [hue_lt b1.1 b1.2 b2.1 b2.2, if_neg hne]
  have hd := plJ_lt (sm := sm) hk
  by_cases hlt : ordL.getD i 0 < ordL.getD j 0
  · rw [if_pos (hd.mpr hlt)]
    rw [decide_eq_true hlt] at h; exact h
  · rw [if_neg fun q => hlt (hd.mp q)]
    rw [decide_eq_false hlt] at h; exact h
theorem tups_at {h : Heap} : ∀ (vs : List Value) (f : Nat → Value), (∀ i v, vs[i]? = some v → ∃ a o xs n, v = .ref a ∧ h.get? a = some o ∧ o.cls = .type "tuple" ∧ o.data = .seq xs n ∧ xs[0]? = some (f i)) → KatTups h vs ((List.range vs.length).map f)
  | [], _, _ => KatTups.nil
  | v :: vs, f, H => by
    obtain ⟨a, o, xs, n, rfl, ho, hc, hd, hf⟩ := H 0 v rfl
    rw [List.length_cons, List.range_succ_eq_map, List.map_cons, List.map_map]
    exact KatTups.cons ho hc hd hf (tups_at vs (f ∘ Nat.succ) fun i v hv => H (i + 1) v (by simpa using hv))
/-- the eight pairs sorted: in the order of the spots -/
theorem sorted8 {w : World} {K : Frag} {h₀ : Heap} {L l : Addr} {m : Str → Option Value} {news : List (Addr × Obj)} {vs : List Value} {sm : List Int} {sg : Nat → Str} {Q : Value → Shared → Prop} (F : Fr h₀ L s.heap m) (N : News h₀ L s.heap news) (hl : s.heap.IsList l vs.toArray)
    (X : K.In h₀) (e : nsIn K cStatics sharingNotToldKey = some none) (P : Pairs s.heap vs sm sg) (hP : ∀ p ∈ vs, ∃ a o, p = .ref a ∧ (a, o) ∈ news)
    (h : ∀ D c h', Fr h₀ L h' m → News h₀ L h' ((D, listOf (([7, 4, 1, 6, 3, 0, 5, 2].map fun i => vs.getD i Value.none)).toArray c) :: news) → (∀ q ∈ news, q.1 < D) → Q (.ref D) { s with heap := h' }) :
    wpAny (model PG w) A (call (.builtin "sorted") [.ref l]) Q E s := by
  have n8 := P.n8
  refine kat_sorted F N hl (by omega) (by omega) fun D e1 h' F' N' hlt => ?_
  have P' : Pairs h' vs sm sg := by
    obtain ⟨n8, a, t, u, h1, h2⟩ := P
    refine ⟨n8, a, t, u, fun i hi => ⟨(h1 i hi).1, ?_, (h1 i hi).2.2⟩, h2⟩
    obtain ⟨a', o, e', hm⟩ := hP _ (List.mem_of_getElem? (h1 i hi).1)
    cases e'
    have g0 := (N _ hm).1
    have g1 := (N' _ (.tail _ hm)).1
    rw [(h1 i hi).2.1] at g0
    cases g0
    exact g1
  have X' : K.In h' := X.keeps F'.keep
  have P'' := P'
  obtain ⟨-, a, t, u, h1, h2⟩ := P''
  refine kat_kind (fs := (List.range vs.length).map fun i => .float (hueJ (plJ sm (ordL.getD i 0))) (t i)) (T := .type "float") (tups_at vs _ fun i v hv => ?_) (by simp; omega) (fun v hv => ?_) (by decide) ?_
  · have hi : i < 8 := by rw [← n8]; exact (List.getElem?_eq_some_iff.mp hv).1
    obtain ⟨v1, g1, p1⟩ := h1 i hi
    rw [v1] at hv; cases hv
    exact ⟨_, _, _, _, rfl, g1, rfl, rfl, rfl⟩
  · obtain ⟨i, _, rfl⟩ := List.mem_map.mp hv
    exact Looks.of_pure rfl
  · rw [show ((Value.type "float" != Value.type "tuple") = true) from by decide, n8]
    refine kas_known (n := 8) (lt := fun i j => decide (ordL.getD i 0 < ordL.getD j 0)) (fun i j C hi hj hij hC => ask_pairs X' e P' hi hj hij hC) _ _ sort_run ?_
    refine KasFin.intro F' N' (UpdF.head fun p hp => Nat.ne_of_lt (hlt p hp)) fun h'' c F'' N'' => ?_
    exact h D c h'' F'' N'' hlt
end
end Mine
end

section
open PySem PySem.W PySem.Calls PyProof.Rows
namespace Mine
/-- once round from the start -/
noncomputable def rotR (st : Int) : List Int := (List.range 8).map fun (k : Nat) => (st + (k : Int)).fmod 8
/-- what is left of a reading, in spots -/
noncomputable def stoodOf (ks : List Int) (st : Int) : List Int := match piecesOf ks st with
  | [q0, _, q2] => q0 ++ q2
  | _ => rotR st
noncomputable def gateOf (ks : List Int) (k : Int) : Bool := ks.getD k.toNat 0 == 2
theorem pc_split (ks : List Int) (st : Int) : ∀ (n : Nat) (l : List Nat) (acc : List (List Int)) (cur : List Int), (l.foldl (pcStep ks st) (acc, cur)).1 ++ [(l.foldl (pcStep ks st) (acc, cur)).2] = acc ++ splitW (gateOf ks) cur (l.map fun (w : Nat) => (st + (w : Int)).fmod 8) := by
  intro n l
  induction l with
  | nil => intro acc cur; rfl
  | cons w l ih =>
    intro acc cur
    rw [List.foldl_cons, List.map_cons, splitW]
    by_cases h : ks.getD ((st + (w : Int)).fmod 8).toNat 0 = 2
    · have hg : gateOf ks ((st + (w : Int)).fmod 8) = true := by unfold gateOf; rw [h]; rfl
      rw [show pcStep ks st (acc, cur) w = (acc ++ [cur], []) from if_pos h, ih, if_pos hg, List.append_assoc]; rfl
    · have hg : ¬ gateOf ks ((st + (w : Int)).fmod 8) = true := by unfold gateOf; simpa using h
      rw [show pcStep ks st (acc, cur) w = (acc, cur ++ [(st + (w : Int)).fmod 8]) from if_neg h, ih, if_neg hg]
theorem pieces_split (ks : List Int) (st : Int) : piecesOf ks st = splitW (gateOf ks) [] (rotR st) := by
  have := pc_split ks st 0 (List.range 8) [] []
  exact this
theorem rotR_bd {st : Int} (h0 : 0 ≤ st) : ∀ k ∈ rotR st, 0 ≤ k ∧ k < 8 := by
  intro k hk
  obtain ⟨w, _, rfl⟩ := List.mem_map.mp hk
  rw [Int.fmod_eq_emod_of_nonneg _ (by decide)]; omega
theorem pieces_mem {ks : List Int} {st : Int} (h0 : 0 ≤ st) : ∀ q ∈ piecesOf ks st, q.length ≤ 8 ∧ ∀ k ∈ q, 0 ≤ k ∧ k < 8 := by
  intro q hq
  rw [pieces_split] at hq
  obtain ⟨h1, h2⟩ := splitW_mem _ _ _ _ hq
  refine ⟨by simpa [rotR] using h1, fun k hk => ?_⟩
  rcases h2 k hk with h | h
  · cases h
  · exact rotR_bd h0 k h
/-- the same by bits -/
noncomputable def stoodB (bs : List Bool) (st : Int) : List Int := match splitW (fun k : Int => bs.getD k.toNat false) [] (rotR st) with
  | [q0, _, q2] => q0 ++ q2
  | _ => rotR st
theorem gate_bits (ks : List Int) : gateOf ks = fun k : Int => (ks.map (· == 2)).getD k.toNat false := by
  funext k
  unfold gateOf
  rw [List.getD_eq_getElem?_getD, List.getD_eq_getElem?_getD, List.getElem?_map]
  cases ks[k.toNat]? <;> rfl
theorem stood_bits (ks : List Int) (st : Int) : stoodOf ks st = stoodB (ks.map (· == 2)) st := by
  unfold stoodOf stoodB
  rw [pieces_split, gate_bits]
noncomputable def nodupB : List Int → Bool
  | [] => true
  | a :: l => !(l.any (· == a)) && nodupB l
/-- all that is asked of two readers' spots -/
noncomputable def chk2 (bs : List Bool) (s1 s2 : Int) : Bool :=
  let one := stoodB bs s1
  let two := stoodB bs s2
  let k := one.idxOf (two.headD 0)
  one.all (fun a => decide (0 ≤ a) && decide (a < 8)) && decide (one.length ≤ 8) && nodupB one && one.all (fun a => one.all fun b => a == b || !(bs.getD a.toNat false && bs.getD b.toNat false)) &&
  (if two == [] || !(one.any (· == two.headD 0)) then one.all (fun a => two.all fun b => !(a == b) && !(bs.getD a.toNat false && bs.getD b.toNat false)) && two.all (fun a => decide (0 ≤ a) && decide (a < 8)) && decide (two.length ≤ 8)
   else two == one.drop k ++ one.take k)
noncomputable def chk2all (s1 s2 : Int) : Bool := [false, true].all fun a => [false, true].all fun b => [false, true].all fun c => [false, true].all fun d => [false, true].all fun e => [false, true].all fun f => [false, true].all fun g => [false, true].all fun h =>
  if ([a, b, c, d, e, f, g, h].filter id).length ≤ 2 then chk2 [a, b, c, d, e, f, g, h] s1 s2 else true
set_option maxRecDepth 100000 in
theorem chk2_all : ∀ i j : Fin 8, chk2all (i.val : Int) (j.val : Int) = true := by decide +kernel
theorem mem_ft (b : Bool) : b ∈ [false, true] := by cases b <;> decide
theorem chk2_of {bs : List Bool} (h8 : bs.length = 8) (h2 : (bs.filter id).length ≤ 2) {s1 s2 : Int} (a0 : 0 ≤ s1) (a1 : s1 < 8) (b0 : 0 ≤ s2) (b1 : s2 < 8) : chk2 bs s1 s2 = true := by
  obtain ⟨a, b, c, d, e, f, g, h, rfl⟩ := list8 h8
  have := chk2_all ⟨s1.toNat, by omega⟩ ⟨s2.toNat, by omega⟩
  rw [show (((⟨s1.toNat, by omega⟩ : Fin 8).val : Nat) : Int) = s1 from Int.toNat_of_nonneg a0, show (((⟨s2.toNat, by omega⟩ : Fin 8).val : Nat) : Int) = s2 from Int.toNat_of_nonneg b0] at this
  unfold chk2all at this
  have t1 := List.all_eq_true.mp this a (mem_ft a)
  have t2 := List.all_eq_true.mp t1 b (mem_ft b)
  have t3 := List.all_eq_true.mp t2 c (mem_ft c)
  have t4 := List.all_eq_true.mp t3 d (mem_ft d)
  have t5 := List.all_eq_true.mp t4 e (mem_ft e)
  have t6 := List.all_eq_true.mp t5 f (mem_ft f)
  have t7 := List.all_eq_true.mp t6 g (mem_ft g)
  have t8 := List.all_eq_true.mp t7 h (mem_ft h)
  rwa [if_pos h2] at t8
theorem nodupB_ok : ∀ {l : List Int}, nodupB l = true → l.Nodup
  | [], _ => List.nodup_nil
  | a :: l, h => by
    rw [nodupB, Bool.and_eq_true] at h
    refine List.nodup_cons.mpr ⟨fun hm => ?_, nodupB_ok h.2⟩
    have h1 := h.1
    rw [Bool.not_eq_true', List.any_eq_false] at h1
    exact h1 a hm (by simp)
/-- two readers' spots: of one side, or apart -/
structure TwoOk (g : Int → Bool) (one two : List Int) : Prop where
  b : ∀ a ∈ one, 0 ≤ a ∧ a < 8
  b2 : ∀ a ∈ two, 0 ≤ a ∧ a < 8
  l : one.length ≤ 8
  l2 : two.length ≤ 8
  nd : one.Nodup
  g1 : ∀ a ∈ one, ∀ b ∈ one, a ≠ b → ¬ (g a = true ∧ g b = true)
  c : ((two = [] ∨ two.getD 0 0 ∉ one) ∧ ∀ a ∈ one, ∀ b ∈ two, a ≠ b ∧ ¬ (g a = true ∧ g b = true)) ∨ (two ≠ [] ∧ two.getD 0 0 ∈ one ∧ two = one.drop (one.idxOf (two.getD 0 0)) ++ one.take (one.idxOf (two.getD 0 0)))
theorem headD_getD (l : List Int) : l.headD 0 = l.getD 0 0 := by cases l <;> rfl
theorem two_ok {ks : List Int} (hk : KOk ks) {s1 s2 : Int} (a0 : 0 ≤ s1) (a1 : s1 < 8) (b0 : 0 ≤ s2) (b1 : s2 < 8) : TwoOk (gateOf ks) (stoodOf ks s1) (stoodOf ks s2) := by
  have h2 : ((ks.map (· == 2)).filter id).length ≤ 2 := by rw [← filter_len]; exact hk.2.2
  have h := chk2_of (bs := ks.map (· == 2)) (by rw [List.length_map, hk.1]) h2 a0 a1 b0 b1
  unfold chk2 at h
  rw [← stood_bits, ← stood_bits] at h
  have hg : ∀ k : Int, (ks.map (· == 2)).getD k.toNat false = gateOf ks k := fun k => (congrFun (gate_bits ks) k).symm
  simp only [hg, headD_getD, Bool.and_eq_true, decide_eq_true_eq] at h
  obtain ⟨⟨⟨⟨h1, h2⟩, h3⟩, h4⟩, h5⟩ := h
  have hb : ∀ a ∈ stoodOf ks s1, 0 ≤ a ∧ a < 8 := fun a ha => by
    have := List.all_eq_true.mp h1 a ha
    simpa using this
  have hgg : ∀ a ∈ stoodOf ks s1, ∀ b ∈ stoodOf ks s1, a ≠ b → ¬ (gateOf ks a = true ∧ gateOf ks b = true) := fun a ha b hb' n => by
    have := List.all_eq_true.mp (List.all_eq_true.mp h4 a ha) b hb'
    simp only [Bool.or_eq_true, beq_iff_eq, Bool.not_eq_true', Bool.and_eq_false_iff] at this
    rintro ⟨p, q⟩
    rcases this with h | h | h
    · exact n h
    · rw [p] at h; cases h
    · rw [q] at h; cases h
  split at h5
  · rename_i hc
    simp only [Bool.and_eq_true, decide_eq_true_eq] at h5
    obtain ⟨⟨k1, k2⟩, k3⟩ := h5
    refine ⟨hb, fun a ha => ?_, h2, k3, nodupB_ok h3, hgg, .inl ⟨?_, fun a ha b hb' => ?_⟩⟩
    · have := List.all_eq_true.mp k2 a ha
      simpa using this
    · simp only [Bool.or_eq_true, beq_iff_eq, Bool.not_eq_true', List.any_eq_false] at hc
      rcases hc with h | h
      · exact .inl h
      · exact .inr fun hm => h _ hm rfl
    · have := List.all_eq_true.mp (List.all_eq_true.mp k1 a ha) b hb'
      simp only [Bool.and_eq_true, Bool.not_eq_true', beq_eq_false_iff_ne, Bool.and_eq_false_iff] at this
      refine ⟨this.1, ?_⟩
      rintro ⟨p, q⟩
      rcases this.2 with h | h
      · rw [p] at h; cases h
      · rw [q] at h; cases h
  · rename_i hc
    simp only [Bool.or_eq_true, beq_iff_eq, Bool.not_eq_true', not_or] at hc
    have e : stoodOf ks s2 = (stoodOf ks s1).drop ((stoodOf ks s1).idxOf ((stoodOf ks s2).getD 0 0)) ++ (stoodOf ks s1).take ((stoodOf ks s1).idxOf ((stoodOf ks s2).getD 0 0)) := by simpa using h5
    have hm : (stoodOf ks s2).getD 0 0 ∈ stoodOf ks s1 := by
      have := hc.2
      rw [Bool.not_eq_false, List.any_eq_true] at this
      obtain ⟨x, hx, hxe⟩ := this
      have hxe' : x = (stoodOf ks s2).getD 0 0 := by simpa using hxe
      rw [← hxe']; exact hx
    have hsub : ∀ a ∈ stoodOf ks s2, a ∈ stoodOf ks s1 := fun a ha => by
      rw [e] at ha
      rcases List.mem_append.mp ha with h | h
      · exact List.mem_of_mem_drop h
      · exact List.mem_of_mem_take h
    refine ⟨hb, fun a ha => hb a (hsub a ha), h2, ?_, nodupB_ok h3, hgg, .inr ⟨hc.1, hm, e⟩⟩
    have := congrArg List.length e
    rw [List.length_append, List.length_drop, List.length_take] at this
    omega
end Mine
end

section
open PySem PySem.W PySem.Calls PyProof.Rows
namespace Mine
/-- the number of a spot's sign, and of the same in small letters -/
noncomputable def codeS (j κ : Int) : Nat := if κ = 2 then 39 else ((if κ = 0 then 97 else 65) + j).toNat
noncomputable def lowS (j κ : Int) : Nat := if κ = 2 then 39 else (97 + j).toNat
theorem signS_code (j κ : Int) : signS j κ = S [codeS j κ] := by
  unfold signS codeS
  split
  · exact S_tick
  · rfl
theorem low_all : ∀ (i : Fin 16) (κ : Fin 3), Txt.lower (S [codeS (i.val : Int) (κ.val : Int)]) = S [lowS (i.val : Int) (κ.val : Int)] := by decide +kernel
theorem low_code {j κ : Int} (j0 : 0 ≤ j) (j1 : j < 16) (k0 : 0 ≤ κ) (k2 : κ ≤ 2) : Txt.lower (S [codeS j κ]) = S [lowS j κ] := by
  have := low_all ⟨j.toNat, by omega⟩ ⟨κ.toNat, by omega⟩
  rwa [show (((⟨j.toNat, by omega⟩ : Fin 16).val : Nat) : Int) = j from Int.toNat_of_nonneg j0, show (((⟨κ.toNat, by omega⟩ : Fin 3).val : Nat) : Int) = κ from Int.toNat_of_nonneg k0] at this
theorem sub_code {i j κ κ' : Int} (i0 : 0 ≤ i) (i1 : i < 16) (j0 : 0 ≤ j) (j1 : j < 16) (k0 : 0 ≤ κ) (k2 : κ ≤ 2) (k0' : 0 ≤ κ') (k2' : κ' ≤ 2) :
    subN (codeS i κ) (codeS j κ') = if codeS i κ = codeS j κ' then 0 else if lowS i κ = lowS j κ' then 1 else 2 := by
  unfold subN subC
  rw [low_code i0 i1 k0 k2, low_code j0 j1 k0' k2', S_beq, S_beq]
  simp
/-- the same place -/
theorem sub_same {j κ c : Int} (j0 : 0 ≤ j) (j1 : j < 16) (k0 : 0 ≤ κ) (k2 : κ ≤ 2) (c0 : 0 ≤ c) (c1 : c ≤ 1) (hc : κ = 2 → c = 0) : subN (codeS j κ) (codeS j (otF κ c)) = c ∧ subN (codeS j (otF κ c)) (codeS j κ) = c := by
  have ho : 0 ≤ otF κ c ∧ otF κ c ≤ 2 := by unfold otF; split <;> omega
  rw [sub_code j0 j1 j0 j1 k0 k2 ho.1 ho.2, sub_code j0 j1 j0 j1 ho.1 ho.2 k0 k2]
  rcases (show κ = 0 ∨ κ = 1 ∨ κ = 2 by omega) with rfl | rfl | rfl
  · rcases (show c = 0 ∨ c = 1 by omega) with rfl | rfl
    · rw [show otF 0 0 = 0 from rfl]; simp
    · rw [show otF 0 1 = 1 from rfl]; simp [codeS, lowS]; omega
  · rcases (show c = 0 ∨ c = 1 by omega) with rfl | rfl
    · rw [show otF 1 0 = 1 from rfl]; simp
    · rw [show otF 1 1 = 0 from rfl]; simp [codeS, lowS]; omega
  · rw [hc rfl, show otF 2 0 = 2 from rfl]; simp
theorem sub_diff {i j κ κ' : Int} (i0 : 0 ≤ i) (i1 : i < 16) (j0 : 0 ≤ j) (j1 : j < 16) (k0 : 0 ≤ κ) (k2 : κ ≤ 2) (k0' : 0 ≤ κ') (k2' : κ' ≤ 2) (hij : i ≠ j) (hg : ¬ (κ = 2 ∧ κ' = 2)) : subN (codeS i κ) (codeS j κ') = 2 := by
  rw [sub_code i0 i1 j0 j1 k0 k2 k0' k2']
  have h1 : codeS i κ ≠ codeS j κ' := by
    unfold codeS
    split <;> split <;> (try split) <;> (try split) <;> omega
  have h2 : lowS i κ ≠ lowS j κ' := by
    unfold lowS
    split <;> split <;> omega
  rw [if_neg h1, if_neg h2]
theorem chF_bd (k s : Int) : 0 ≤ chF k s ∧ chF k s ≤ 1 ∧ (k = 2 → chF k s = 0) := by
  unfold chF
  have := Int.fmod_eq_emod_of_nonneg (s.fdiv 6) (show (0 : Int) ≤ 2 by decide)
  split
  · omega
  · exact ⟨by omega, by omega, fun h => by contradiction⟩
theorem chL_at {km sm : List Int} {k : Nat} (h : k < 8) : (chL km sm).getD k 0 = chF (km.getD k 0) (sm.getD k 0) := by
  unfold chL
  rw [List.getD_eq_getElem?_getD, List.getElem?_map, List.getElem?_range h]; rfl
theorem otL_at {km cm : List Int} {k : Nat} (h : k < 8) : (otL km cm).getD k 0 = otF (km.getD k 0) (cm.getD k 0) := by
  unfold otL
  rw [List.getD_eq_getElem?_getD, List.getElem?_map, List.getElem?_range h]; rfl
theorem chL_bd (km sm : List Int) (k : Nat) : 0 ≤ (chL km sm).getD k 0 ∧ (chL km sm).getD k 0 ≤ 1 := by
  by_cases h : k < 8
  · rw [chL_at h]; have := chF_bd (km.getD k 0) (sm.getD k 0); omega
  · have : (chL km sm).length = 8 := rfl
    rw [List.getD_eq_getElem?_getD, List.getElem?_eq_none (by omega)]; simp
theorem fmod2 (x : Int) : 0 ≤ x.fmod 2 ∧ x.fmod 2 < 2 := by
  rw [Int.fmod_eq_emod_of_nonneg _ (by decide)]
  exact ⟨Int.emod_nonneg _ (by decide), Int.emod_lt_of_pos _ (by decide)⟩
theorem two_apart {a b : Nat} {u v : Int} (hu : 0 ≤ u ∧ u < 2) (hv : 0 ≤ v ∧ v < 2) (h : 2 * (a : Int) + u = 2 * (b : Int) + v) : a = b := by omega
theorem plJ_ne {sm : List Int} {a b : Nat} (h : a ≠ b) : plJ sm a ≠ plJ sm b := fun e => h (two_apart (fmod2 _) (fmod2 _) e)
theorem toNat_ne {a b : Int} (ha : 0 ≤ a) (hb : 0 ≤ b) (h : a ≠ b) : a.toNat ≠ b.toNat := fun e => h ((Int.toNat_of_nonneg ha).symm.trans ((congrArg Nat.cast e).trans (Int.toNat_of_nonneg hb)))
theorem toNat8 {a : Int} (h : 0 ≤ a ∧ a < 8) : a.toNat < 8 := by omega
/-- the signs of the first wheel and of the second one -/
noncomputable def sgK (km sm : List Int) (k : Int) : Nat := codeS (plJ sm k.toNat) (km.getD k.toNat 0)
noncomputable def sgO (km cm sm : List Int) (k : Int) : Nat := codeS (plJ sm k.toNat) ((otL km cm).getD k.toNat 0)
section
variable {km sm : List Int} (hk : KOk km)
include hk
theorem km_bd {k : Nat} (h : k < 8) : 0 ≤ km.getD k 0 ∧ km.getD k 0 ≤ 2 := by
  have hl : k < km.length := by rw [hk.1]; exact h
  rw [List.getD_eq_getElem?_getD, List.getElem?_eq_getElem hl]
  exact hk.2.1 _ (List.getElem_mem hl)
theorem om_bd {k : Nat} (h : k < 8) : 0 ≤ (otL km (chL km sm)).getD k 0 ∧ (otL km (chL km sm)).getD k 0 ≤ 2 ∧ (km.getD k 0 = 2 ↔ (otL km (chL km sm)).getD k 0 = 2) := by
  rw [otL_at h, chL_at h]
  have b := km_bd hk h
  have c := chF_bd (km.getD k 0) (sm.getD k 0)
  unfold otF
  split
  · omega
  · refine ⟨by omega, by omega, by omega⟩
theorem sg_ok {W : List Int} (hb : ∀ a ∈ W, 0 ≤ a ∧ a < 8) (hg : ∀ a ∈ W, ∀ b ∈ W, a ≠ b → ¬ (gateOf km a = true ∧ gateOf km b = true)) :
    Sg subN (sgK km sm) (sgO km (chL km sm) sm) (fun k => (chL km sm).getD k.toNat 0) W := by
  have pl : ∀ a ∈ W, 0 ≤ plJ sm a.toNat ∧ plJ sm a.toNat < 16 := fun a ha => plJ_bd (toNat8 (hb a ha))
  have eq : ∀ i ∈ W, subN (sgK km sm i) (sgO km (chL km sm) sm i) = (chL km sm).getD i.toNat 0 := fun i hi => by
    have h8 : i.toNat < 8 := toNat8 (hb i hi)
    have b := km_bd hk h8
    have c := chF_bd (km.getD i.toNat 0) (sm.getD i.toNat 0)
    unfold sgK sgO
    rw [otL_at h8, chL_at h8]
    exact (sub_same (pl i hi).1 (pl i hi).2 b.1 b.2 c.1 c.2.1 c.2.2).1
  have ne : ∀ i ∈ W, ∀ j ∈ W, i ≠ j → subN (sgK km sm i) (sgO km (chL km sm) sm j) = 2 := fun i hi j hj hij => by
    have bi := hb i hi
    have bj := hb j hj
    have b := km_bd hk (toNat8 bi)
    have o := om_bd hk (sm := sm) (toNat8 bj)
    have hd : plJ sm i.toNat ≠ plJ sm j.toNat := plJ_ne (toNat_ne bi.1 bj.1 hij)
    refine sub_diff (pl i hi).1 (pl i hi).2 (pl j hj).1 (pl j hj).2 b.1 b.2 o.1 o.2.1 hd fun ⟨h1, h2⟩ => hg i hi j hj hij ⟨?_, ?_⟩
    · unfold gateOf; rw [h1]; rfl
    · unfold gateOf; rw [o.2.2.mpr h2]; rfl
  refine ⟨eq, ne, fun i hi e => ?_, fun i hi j hj hij e => ?_, fun i => (chL_bd km sm _).1, fun i => (chL_bd km sm _).2⟩
  · rw [← eq i hi, e]
    unfold subN subC; simp
  · have := ne i hi j hj hij
    rw [e] at this
    unfold subN subC at this; simp at this
omit hk in
theorem subN_symm (a b : Nat) : subN a b = subN b a := by
  unfold subN subC
  have h1 : (S [a] == S [b]) = (S [b] == S [a]) := BEq.comm
  have h2 : (Txt.lower (S [a]) == Txt.lower (S [b])) = (Txt.lower (S [b]) == Txt.lower (S [a])) := BEq.comm
  rw [h1, h2]
/-- the distance of two readings is their price, with just this as the bound and, exchanged, with one less -/
theorem dist_price {s1 s2 : Int} (a0 : 0 ≤ s1) (a1 : s1 < 8) (b0 : 0 ≤ s2) (b1 : s2 < 8) :
    lev subN 0 (priceOf (stoodOf km s1) (stoodOf km s2) (chL km sm)) ((stoodOf km s1).map (sgK km sm)) ((stoodOf km s2).map (sgO km (chL km sm) sm)) = priceOf (stoodOf km s1) (stoodOf km s2) (chL km sm) ∧
    lev subN 0 (priceOf (stoodOf km s1) (stoodOf km s2) (chL km sm) - 1) ((stoodOf km s2).map (sgO km (chL km sm) sm)) ((stoodOf km s1).map (sgK km sm)) = priceOf (stoodOf km s1) (stoodOf km s2) (chL km sm) := by
  have T := two_ok hk a0 a1 b0 b1
  generalize stoodOf km s1 = one at *
  generalize stoodOf km s2 = two at *
  rcases T.c with ⟨hout, hap⟩ | ⟨hne, hin, he⟩
  · rw [priceOf_out hout]
    have ap : ∀ a ∈ one, ∀ b ∈ two, sgK km sm a ≠ sgO km (chL km sm) sm b ∧ subN (sgK km sm a) (sgO km (chL km sm) sm b) = 2 := fun a ha b hb => by
      have ba := T.b a ha
      have bb := T.b2 b hb
      obtain ⟨hd, hg⟩ := hap a ha b hb
      have k1 := km_bd hk (toNat8 ba)
      have k2 := om_bd hk (sm := sm) (toNat8 bb)
      have p1 := plJ_bd (sm := sm) (toNat8 ba)
      have p2 := plJ_bd (sm := sm) (toNat8 bb)
      have hpd : plJ sm a.toNat ≠ plJ sm b.toNat := plJ_ne (toNat_ne ba.1 bb.1 hd)
      have h2 : subN (sgK km sm a) (sgO km (chL km sm) sm b) = 2 := sub_diff p1.1 p1.2 p2.1 p2.2 k1.1 k1.2 k2.1 k2.2.1 hpd fun ⟨h1, h2⟩ => hg ⟨by unfold gateOf; rw [h1]; rfl, by unfold gateOf; rw [k2.2.2.mpr h2]; rfl⟩
      refine ⟨fun e => ?_, h2⟩
      rw [e] at h2
      unfold subN subC at h2; simp at h2
    constructor
    · refine lev_apart (fun a ha b hb => ?_) ?_ (.inl rfl)
      · obtain ⟨x, hx, rfl⟩ := List.mem_map.mp ha
        obtain ⟨y, hy, rfl⟩ := List.mem_map.mp hb
        obtain ⟨h1, h2⟩ := ap x hx y hy
        exact ⟨h1, h2, by rw [subN_symm]; exact h2⟩
      · rw [List.length_map, List.length_map]
    · refine lev_apart (fun a ha b hb => ?_) ?_ (.inr (by omega))
      · obtain ⟨x, hx, rfl⟩ := List.mem_map.mp ha
        obtain ⟨y, hy, rfl⟩ := List.mem_map.mp hb
        obtain ⟨h1, h2⟩ := ap y hy x hx
        exact ⟨Ne.symm h1, by rw [subN_symm]; exact h2, h2⟩
      · rw [List.length_map, List.length_map]; split <;> split <;> omega
  · have hkl : one.idxOf (two.getD 0 0) < one.length := List.idxOf_lt_length_iff.mpr hin
    rw [priceOf_in hne hin]
    generalize one.idxOf (two.getD 0 0) = k at *
    have Hs := sg_ok hk (sm := sm) T.b T.g1
    have e1 : one = one.take k ++ one.drop k := (List.take_append_drop k one).symm
    have lU : (one.take k).length = k := by rw [List.length_take]; omega
    have lV : (one.drop k).length = one.length - k := List.length_drop ..
    have nd := T.nd
    have hVne : one.drop k ≠ [] := fun h => by have := congrArg List.length h; rw [lV] at this; simp at this; omega
    have V0 : ∀ l : List Int, 0 ≤ (l.map fun q => (chL km sm).getD q.toNat 0).sum ∧ (l.map fun q => (chL km sm).getD q.toNat 0).sum ≤ (l.length : Int) := fun l => sum_bd (ch := fun q : Int => (chL km sm).getD q.toNat 0) (fun i => (chL_bd km sm _).1) (fun i => (chL_bd km sm _).2) l
    by_cases hU : one.take k = []
    · have hk0 : k = 0 := by rw [hU] at lU; simpa using lU.symm
      subst hk0
      rw [List.drop_zero, List.take_zero] at *
      rw [List.append_nil] at he
      subst he
      have hb := V0 two
      have hp : (if 4 * ((two.length : Int) - ((0 : Nat) : Int)) + (([] : List Int).map fun q => (chL km sm).getD q.toNat 0).sum < 4 * ((0 : Nat) : Int) + (two.map fun q => (chL km sm).getD q.toNat 0).sum
         then (if 2 * (two.length : Int) < 4 * ((two.length : Int) - ((0 : Nat) : Int)) + (([] : List Int).map fun q => (chL km sm).getD q.toNat 0).sum then 2 * (two.length : Int) else 4 * ((two.length : Int) - ((0 : Nat) : Int)) + (([] : List Int).map fun q => (chL km sm).getD q.toNat 0).sum)
         else (if 2 * (two.length : Int) < 4 * ((0 : Nat) : Int) + (two.map fun q => (chL km sm).getD q.toNat 0).sum then 2 * (two.length : Int) else 4 * ((0 : Nat) : Int) + (two.map fun q => (chL km sm).getD q.toNat 0).sum)) = (two.map fun q => (chL km sm).getD q.toNat 0).sum := by
        simp only [List.map_nil, List.sum_nil]
        split <;> split <;> omega
      rw [hp]
      exact ⟨lev_one (ch := fun q : Int => (chL km sm).getD q.toNat 0) (Hs.symm subN_symm) nd (.inl rfl), lev_one (ch := fun q : Int => (chL km sm).getD q.toNat 0) Hs nd (.inr (by omega))⟩
    · rw [e1] at Hs nd
      have hmem : ∀ i ∈ one.drop k ++ one.take k, i ∈ one.take k ++ one.drop k := fun i hi => by
        rcases List.mem_append.mp hi with h | h
        · exact List.mem_append_right _ h
        · exact List.mem_append_left _ h
      have nd' : (one.drop k ++ one.take k).Nodup := by
        obtain ⟨n1, n2, n3⟩ := List.nodup_append.mp nd
        exact List.nodup_append.mpr ⟨n2, n1, fun a ha b hb e => n3 b hb a ha e.symm⟩
      have hS1 := V0 (one.take k)
      have hS2 := V0 (one.drop k)
      have hp := lev_rot (dflt := 0) (mc := (if 4 * ((one.length : Int) - (k : Int)) + ((one.take k).map fun q => (chL km sm).getD q.toNat 0).sum < 4 * (k : Int) + ((one.drop k).map fun q => (chL km sm).getD q.toNat 0).sum
         then (if 2 * (one.length : Int) < 4 * ((one.length : Int) - (k : Int)) + ((one.take k).map fun q => (chL km sm).getD q.toNat 0).sum then 2 * (one.length : Int) else 4 * ((one.length : Int) - (k : Int)) + ((one.take k).map fun q => (chL km sm).getD q.toNat 0).sum)
         else (if 2 * (one.length : Int) < 4 * (k : Int) + ((one.drop k).map fun q => (chL km sm).getD q.toNat 0).sum then 2 * (one.length : Int) else 4 * (k : Int) + ((one.drop k).map fun q => (chL km sm).getD q.toNat 0).sum)) - 1) Hs nd hU hVne
      have hq := lev_rot (dflt := 0) (mc := (if 4 * ((one.length : Int) - (k : Int)) + ((one.take k).map fun q => (chL km sm).getD q.toNat 0).sum < 4 * (k : Int) + ((one.drop k).map fun q => (chL km sm).getD q.toNat 0).sum
         then (if 2 * (one.length : Int) < 4 * ((one.length : Int) - (k : Int)) + ((one.take k).map fun q => (chL km sm).getD q.toNat 0).sum then 2 * (one.length : Int) else 4 * ((one.length : Int) - (k : Int)) + ((one.take k).map fun q => (chL km sm).getD q.toNat 0).sum)
         else (if 2 * (one.length : Int) < 4 * (k : Int) + ((one.drop k).map fun q => (chL km sm).getD q.toNat 0).sum then 2 * (one.length : Int) else 4 * (k : Int) + ((one.drop k).map fun q => (chL km sm).getD q.toNat 0).sum))) ((Hs.symm subN_symm).of_sub hmem) nd' hVne hU
      rw [lU, lV] at hp hq
      have hcast : ((one.length - k : Nat) : Int) = (one.length : Int) - (k : Int) := by omega
      rw [hcast] at hp hq
      generalize hs1 : ((one.take k).map fun q => (chL km sm).getD q.toNat 0).sum = s1 at *
      generalize hs2 : ((one.drop k).map fun q => (chL km sm).getD q.toNat 0).sum = s2 at *
      have m1 : mn3 (4 * (k : Int) + s2) (4 * ((one.length : Int) - (k : Int)) + s1) (2 * ((k : Int) + ((one.length : Int) - (k : Int)))) = (if 4 * ((one.length : Int) - (k : Int)) + s1 < 4 * (k : Int) + s2 then (if 2 * (one.length : Int) < 4 * ((one.length : Int) - (k : Int)) + s1 then 2 * (one.length : Int) else 4 * ((one.length : Int) - (k : Int)) + s1)
         else (if 2 * (one.length : Int) < 4 * (k : Int) + s2 then 2 * (one.length : Int) else 4 * (k : Int) + s2)) := by
        unfold mn3
        rw [show 2 * ((k : Int) + ((one.length : Int) - (k : Int))) = 2 * (one.length : Int) by omega]
      have m2 : mn3 (4 * ((one.length : Int) - (k : Int)) + s1) (4 * (k : Int) + s2) (2 * (((one.length : Int) - (k : Int)) + (k : Int))) = (if 4 * ((one.length : Int) - (k : Int)) + s1 < 4 * (k : Int) + s2 then (if 2 * (one.length : Int) < 4 * ((one.length : Int) - (k : Int)) + s1 then 2 * (one.length : Int) else 4 * ((one.length : Int) - (k : Int)) + s1)
         else (if 2 * (one.length : Int) < 4 * (k : Int) + s2 then 2 * (one.length : Int) else 4 * (k : Int) + s2)) := by
        rw [← m1]
        unfold mn3
        split <;> split <;> split <;> split <;> omega
      rw [m1] at hp
      rw [m2] at hq
      have hp' := hp (.inr (Int.sub_add_cancel _ _).symm)
      have hq' := hq (.inl rfl)
      rw [he]
      refine ⟨?_, ?_⟩
      · rw [← e1] at hq'; exact hq'
      · rw [← e1] at hp'; exact hp'
end
end Mine
end

section
open PySem PySem.W PySem.Calls PyProof.Rows
set_option linter.unusedSectionVars false
namespace Mine
/-- eight signs in the order of the spots -/
noncomputable def rowL (f : Int → Nat) : List Nat := (List.range 8).map fun (k : Nat) => f (k : Int)
theorem rowL_len (f : Int → Nat) : (rowL f).length = 8 := rfl
theorem eight {st : Int} (h0 : 0 ≤ st) (h1 : st < 8) : st = 0 ∨ st = 1 ∨ st = 2 ∨ st = 3 ∨ st = 4 ∨ st = 5 ∨ st = 6 ∨ st = 7 := by
  obtain ⟨n, rfl⟩ := Int.eq_ofNat_of_zero_le h0
  exact (by decide : ∀ n : Nat, n < 8 → ((n : Int) = 0 ∨ (n : Int) = 1 ∨ (n : Int) = 2 ∨ (n : Int) = 3 ∨ (n : Int) = 4 ∨ (n : Int) = 5 ∨ (n : Int) = 6 ∨ (n : Int) = 7)) n (Int.ofNat_lt.mp h1)
theorem row_rot (f : Int → Nat) {st : Int} (h0 : 0 ≤ st) (h1 : st < 8) : (rowL f).drop st.toNat ++ (rowL f).take st.toNat = (rotR st).map f := by
  rcases (eight h0 h1) with rfl | rfl | rfl | rfl | rfl | rfl | rfl | rfl <;> rfl
theorem row_at (f : Int → Nat) {k : Int} (h0 : 0 ≤ k) (h1 : k < 8) : (rowL f).getD k.toNat 0 = f k := by
  unfold rowL
  rw [List.getD_eq_getElem?_getD, List.getElem?_map, List.getElem?_range (by omega)]
  show f ((k.toNat : Nat) : Int) = f k
  rw [Int.toNat_of_nonneg h0]
theorem words_row (f : Int → Nat) {q : List Int} (h : ∀ k ∈ q, 0 ≤ k ∧ k < 8) : wordsOf' (rowL f) q = q.map f := List.map_congr_left fun k hk => row_at f (h k hk).1 (h k hk).2
/-- the gates met once round are the gates -/
theorem rot_gates (ks : List Int) (h8 : ks.length = 8) {st : Int} (h0 : 0 ≤ st) (h1 : st < 8) : ((rotR st).filter (gateOf ks)).length = (ks.filter (· == 2)).length := by
  rw [filter_len (gateOf ks), filter_len (· == (2 : Int))]
  have hr : (rotR st).map (gateOf ks) = (ks.map (· == 2)).drop st.toNat ++ (ks.map (· == 2)).take st.toNat := by
    obtain ⟨a, b, c, d, e, f, g, h, rfl⟩ := list8 h8
    rcases (eight h0 h1) with rfl | rfl | rfl | rfl | rfl | rfl | rfl | rfl <;> rfl
  rw [hr, List.filter_append, List.length_append, Nat.add_comm, ← List.length_append, ← List.filter_append, List.take_append_drop]
/-- a glued row of pieces -/
theorem glue_split {α : Type} (g : α → Bool) (f : α → Nat) : ∀ (r cur : List α), (∀ a ∈ r, g a = true → f a = 39) → glueL [39] ((splitW g cur r).map (·.map f)) = (cur ++ r).map f
  | [], cur, _ => by simp [splitW, glueL]
  | a :: r, cur, h => by
    rw [splitW]
    by_cases hg : g a = true
    · rw [if_pos hg, List.map_cons]
      have ih := glue_split g f r [] fun b hb => h b (.tail _ hb)
      have hne : ∀ l : List (List Nat), (l.map fun q => [39] ++ q).flatten = if l = [] then [] else 39 :: glueL [39] l := fun l => by
        cases l with
        | nil => rfl
        | cons q l => simp [glueL]
      show cur.map f ++ (((splitW g [] r).map (·.map f)).map fun q => [39] ++ q).flatten = _
      rw [hne, ih, if_neg (fun e => by have := congrArg List.length e; rw [List.length_map, splitW_len] at this; cases this)]
      simp [h a (.head _) hg]
    · rw [if_neg hg, glue_split g f r (cur ++ [a]) fun b hb => h b (.tail _ hb)]
      simp
section
variable {km : List Int} (hk : KOk km) {f : Int → Nat} (hf : ∀ k, 0 ≤ k → k < 8 → (f k = 39 ↔ gateOf km k = true)) {st : Int} (h0 : 0 ≤ st) (h1 : st < 8)
include hk h0 h1
theorem pieces_len : (piecesOf km st).length = (km.filter (· == 2)).length + 1 := by
  rw [pieces_split, splitW_len, rot_gates km hk.1 h0 h1]
theorem pieces_le : (piecesOf km st).length ≤ 3 := by
  have := hk.2.2
  rw [pieces_len hk h0 h1]; omega
omit h1 in
include hf in
theorem rot_iff : ∀ a ∈ rotR st, (f a = 39 ↔ gateOf km a = true) := fun a ha => hf a (rotR_bd h0 a ha).1 (rotR_bd h0 a ha).2
include hf in
/-- the reading cut -/
theorem read_split : Txt.splitMax (S ((rotR st).map f)) (Str.ofString "'") 2 = (piecesOf km st).map fun q => S (q.map f) := by
  rw [S_tick, splitMax_S (by decide) (by rw [List.length_map]; exact Nat.zero_lt_succ 7) (by
    rw [filter_map_len (rotR st) (rot_iff hk hf h0), rot_gates km hk.1 h0 h1]; exact hk.2.2)]
  rw [pieces_split, show ([] : List Nat) = ([] : List Int).map f from rfl, splitW_map (rotR st) [] (rot_iff hk hf h0), List.map_map]
  rfl
include hf in
theorem read_glue : glueL [39] ((piecesOf km st).map (·.map f)) = (rotR st).map f := by
  rw [pieces_split, glue_split _ _ _ _ fun a ha hg => (rot_iff hk hf h0 a ha).mpr hg]; rfl
end
theorem stood_three {km : List Int} {st : Int} {q0 q1 q2 : List Int} (h : piecesOf km st = [q0, q1, q2]) : stoodOf km st = q0 ++ q2 := by
  unfold stoodOf; rw [h]
theorem stood_other {km : List Int} {st : Int} (h : (piecesOf km st).length ≠ 3) : stoodOf km st = rotR st := by
  unfold stoodOf
  split
  · rename_i e; rw [e] at h; exact absurd rfl h
  · rfl
theorem three_of {α : Type} {l : List α} (h : l.length = 3) : ∃ a b c, l = [a, b, c] := by
  match l, h with
  | [a, b, c], _ => exact ⟨a, b, c, rfl⟩
/-- the signs that are ticks are the gates -/
theorem sgK_gate {km sm : List Int} (hk : KOk km) : ∀ k, 0 ≤ k → k < 8 → (sgK km sm k = 39 ↔ gateOf km k = true) := by
  intro k h0 h1
  have b := km_bd hk (show k.toNat < 8 by omega)
  have p := plJ_bd (sm := sm) (show k.toNat < 8 by omega)
  unfold sgK codeS gateOf
  rw [beq_iff_eq]
  split
  · rename_i h; exact ⟨fun _ => h, fun _ => rfl⟩
  · rename_i h; constructor
    · intro e; split at e <;> omega
    · intro e; exact absurd e h
theorem sgO_gate {km sm : List Int} (hk : KOk km) : ∀ k, 0 ≤ k → k < 8 → (sgO km (chL km sm) sm k = 39 ↔ gateOf km k = true) := by
  intro k h0 h1
  have b := om_bd hk (sm := sm) (show k.toNat < 8 by omega)
  have p := plJ_bd (sm := sm) (show k.toNat < 8 by omega)
  unfold sgO codeS gateOf
  rw [beq_iff_eq]
  split
  · rename_i h; exact ⟨fun _ => b.2.2.mpr h, fun _ => rfl⟩
  · rename_i h; constructor
    · intro e; split at e <;> omega
    · intro e; exact absurd (b.2.2.mp e) h
end Mine
end

section
open PySem PySem.W PySem.Calls PyProof.Rows
namespace Mine
theorem pick_from {l : List Value} (h8 : l.length = 8) {st : Int} (h0 : 0 ≤ st) (h1 : st < 8) : kms_pick l (some st) none = l.drop st.toNat := by
  unfold kms_pick kms_lo kms_hi
  dsimp only
  rw [if_neg (by omega), h8, show min st.toNat 8 = st.toNat by omega, List.take_of_length_le (by rw [List.length_drop]; omega)]
theorem pick_to {l : List Value} (h8 : l.length = 8) {st : Int} (h0 : 0 ≤ st) (h1 : st < 8) : kms_pick l none (some st) = l.take st.toNat := by
  unfold kms_pick kms_lo kms_hi
  dsimp only
  rw [if_neg (by omega), h8, show min st.toNat 8 = st.toNat by omega, List.drop_zero, Nat.sub_zero]
/-- the row turned and joined -/
theorem rot_join {f : Int → Nat} {vs : List Value} (h8 : vs.length = 8) (hR : ∀ (j : Nat) (y : Value), vs[j]? = some y → ∃ t, y = .str (S [(rowL f).getD j 0]) t) {st : Int} (h0 : 0 ≤ st) (h1 : st < 8) :
    StrsAre (vs.drop st.toNat ++ vs.take st.toNat) ((((rotR st).map f).map fun c => [c]).map S) ∧ Txt.join (S []) ((((rotR st).map f).map fun c => [c]).map S) = S ((rotR st).map f) ∧
    (((((((rotR st).map f).map fun c => [c]).map S).map (·.length)).sum + ((((rotR st).map f).map fun c => [c]).map S).length * (S []).length ≤ 16777216)) := by
  refine ⟨?_, ?_, ?_⟩
  · have base : StrsAre vs ((rowL f).map fun c => S [c]) := strs_of (by rw [h8, List.length_map, rowL_len]) fun j y x hy hx => by
      obtain ⟨t, rfl⟩ := hR j y hy
      rw [List.getElem?_map] at hx
      cases e : (rowL f)[j]? with
      | none => rw [e] at hx; cases hx
      | some c =>
        rw [e] at hx; cases hx
        exact ⟨t, by rw [List.getD_eq_getElem?_getD, e]; rfl⟩
    have e : ((((rotR st).map f).map fun c => [c]).map S) = ((rowL f).map fun c => S [c]).drop st.toNat ++ ((rowL f).map fun c => S [c]).take st.toNat := by
      rw [← row_rot f h0 h1, List.map_map, List.map_append, List.map_drop, List.map_take]; rfl
    rw [e]
    exact (base.drop' _).append' (base.take' _)
  · rw [join_S, glue_nil]
    have := flat_single (fun c : Nat => c) ((rotR st).map f)
    rw [this, List.map_id']
  · have e : (((((rotR st).map f).map fun c => [c]).map S).map (·.length)) = (rotR st).map fun _ => 1 := by
      rw [List.map_map, List.map_map, List.map_map]; rfl
    rw [e, sum_ones, S_len]
    simp [rotR]
section
variable {prog : Program} {w : World} {A : Around} {E : Value → Shared → Prop} {s : Shared}
open PySem.SeqAt
theorem all_true (n : Nat) : (List.range n).all (fun _ => true) = true := by simp
/-- two lists of the same texts -/
theorem ne_strs {a b : Addr} {vs us : List Value} {ss : List Str} {Q : Value → Shared → Prop} (hl : s.heap.IsList a vs.toArray) (hb : s.heap.IsList b us.toArray) (h1 : StrsAre vs ss) (h2 : StrsAre us ss) (hu : A.units < cLine) (h : Q (.bool false) s) :
    wpAny (model prog w) A (compareOp .NotEq (.ref a) (.ref b)) Q E s := by
  have e1 : vs.length = ss.length := h1.length
  have e2 : us.length = ss.length := h2.length
  refine RcNeAt.lists (e := fun _ => true) hl hb (by simp; omega) hu (fun j g1 g2 => ?_) prog w E Q (by rw [all_true]; exact h)
  have hj1 : j < vs.length := by simpa using g1
  have hj2 : j < us.length := by simpa using g2
  have hjs : j < ss.length := by omega
  obtain ⟨t, x1⟩ := h1.at (List.getElem?_eq_getElem hjs)
  obtain ⟨u, y1⟩ := h2.at (List.getElem?_eq_getElem hjs)
  generalize ss[j] = x at *
  have z1 : vs.toArray[j] = .str x t := by rw [List.getElem?_eq_getElem hj1] at x1; simpa using x1
  have z2 : us.toArray[j] = .str x u := by rw [List.getElem?_eq_getElem hj2] at y1; simpa using y1
  rw [z1, z2]
  have := EqAt.str_str (A := A.in1) (s := s) x t x u
  rwa [beq_self_eq_true] at this
/-- two tuples of nothing, nothing and one text -/
theorem ne_whole {a b : Addr} {x : Str} {t u : Tok} {Q : Value → Shared → Prop} (ha : s.heap.get? a = some { cls := .type "tuple", data := .seq #[.none, .none, .str x t] }) (hb : s.heap.get? b = some { cls := .type "tuple", data := .seq #[.none, .none, .str x u] }) (hu : A.units < cLine) (h : Q (.bool false) s) :
    wpAny (model prog w) A (compareOp .NotEq (.ref a) (.ref b)) Q E s := by
  refine RcNeAt.tuples (e := fun _ => true) (items := #[.none, .none, .str x t]) (items2 := #[.none, .none, .str x u]) ⟨_, ha, rfl, 0, rfl⟩ ⟨_, hb, rfl, 0, rfl⟩ hu (fun j h1 h2 => ?_) prog w E Q h
  match j, h1, h2 with
  | 0, _, _ => exact EqAt.same _
  | 1, _, _ => exact EqAt.same _
  | 2, _, _ =>
    have := EqAt.str_str (A := A.in1) (s := s) x t x u
    rwa [beq_self_eq_true] at this
end
theorem words_pieces {km : List Int} {st : Int} (h0 : 0 ≤ st) (f : Int → Nat) : (piecesOf km st).map (wordsOf' (rowL f)) = (piecesOf km st).map (·.map f) :=
  List.map_congr_left fun q hq => words_row f (pieces_mem h0 q hq).2
theorem item_fl {w : World} {A : Around} {E : Value → Shared → Prop} {s : Shared} {value slice : PySem.Expr} {l : Addr} {vs : List Value} {k : Nat} {x : UInt64} {tx u : Tok} {Q : Value → Shared → Prop}
    (hl : s.heap.IsList l vs.toArray) (hx : vs[k]? = some (.float x tx)) (hk : k < 8) (h : Q (.float x tx) s)
    (hs : subscripted slice false (.ref l) (.int (k : Int) u) = operate [.ref l, .int (k : Int) u] (getItem (.ref l) (.int (k : Int) u))) (hg : ∀ r, letTemporaryGo value (.ref l) r = pure ()) :
    wpAny (model PG w) A (subscriptTail value slice (.ref l) (.int (k : Int) u)) Q E s :=
  item_list (x := .float x tx) hl (Int.natCast_nonneg k) (by omega) (by simpa using hx) h hs hg
theorem room_1000 : 1000 < cLine := by rw [cLine_is]; decide
theorem sign_rowK {km sm : List Int} {i : Nat} (h : i < 8) : signS (plJ sm i) (km.getD i 0) = S [(rowL (sgK km sm)).getD i 0] := by
  have hr := row_at (sgK km sm) (Int.natCast_nonneg i) (by omega : (i : Int) < 8)
  rw [Int.toNat_natCast] at hr
  rw [signS_code, hr]; rfl
theorem sign_rowO {km cm sm : List Int} {i : Nat} (h : i < 8) : signS (plJ sm i) ((otL km cm).getD i 0) = S [(rowL (sgO km cm sm)).getD i 0] := by
  have hr := row_at (sgO km cm sm) (Int.natCast_nonneg i) (by omega : (i : Int) < 8)
  rw [Int.toNat_natCast] at hr
  rw [signS_code, hr]; rfl
theorem row_strs {f : Int → Nat} {ys : List Value} (h : ∀ (j : Nat) (y : Value), ys[j]? = some y → ∃ v, (j < 8 ∧ ∃ t, v = Value.int (j : Int) t) ∧ ∃ k : Nat, ∃ t t', v = Value.int (k : Int) t ∧ y = Value.str (S [(rowL f).getD k 0]) t') :
    ∀ (j : Nat) (y : Value), ys[j]? = some y → ∃ t, y = .str (S [(rowL f).getD j 0]) t := fun j y hy => by
  obtain ⟨v, ⟨hj, t, rfl⟩, k, t', t'', e1, rfl⟩ := h j y hy
  obtain ⟨rfl, -⟩ := nat_int_inj e1
  exact ⟨_, rfl⟩
end Mine
end

open PySem PySem.W PySem.Calls PyProof.Rows Mine
local macro_rules | `(tactic| walk_at "eval Name") => `(tactic| (k_here; (with_reducible show wpAny _ _ (eval (Expr.Name _ _) (compEnvC _ _ _ _)) _ _ _); k_dflt (first
  | (refine' nameC_K ?F ?X ?T ?e ?_ ?a ?b; (case a => rfl); (case b => rfl); (case F => k_asm); (case X => k_asm); (case T => k_asm); (case e => k_is); k_whole)
  | (refine' nameC_B ?F ?X ?T ?e ?v ?n ?_ ?a ?b; (case a => rfl); (case b => rfl); (case F => k_asm); (case X => k_asm); (case T => k_asm); (case e => k_is); (case v => boot_fast); (case n => decide); k_whole))))

section
open PySem PySem.W PySem.Calls PyProof.Rows
namespace Mine
local macro_rules | `(tactic| walk_at "execs cons") => `(tactic| (k_here; (try dsimp only); (with_reducible show wpAny _ _ (execs _ _) _ _ (Shared.mk _ _ _ (_ + 1) _)); (with_reducible refine gen_toks ?_); intro tk hqt; (try dsimp only at hqt)))
local macro_rules | `(tactic| walk_at "execs nil") => `(tactic| (k_here; (try dsimp only); (with_reducible show wpAny _ _ (execs _ _) _ _ (Shared.mk _ _ _ (_ + 1) _)); (with_reducible refine gen_toks ?_); intro tk hqt; (try dsimp only at hqt)))
/-- the statements of the loop at place i -/
noncomputable def forBody (body : List Stmt) (i : Nat) : List Stmt := match body.drop i with
  | .For _ _ b _ _ :: _ => b
  | _ => []

theorem News_drop1 {h₀ h : Heap} {L : Addr} {p q : Addr × Obj} {r : List (Addr × Obj)} (N : News h₀ L h ([p] ++ q :: r)) : News h₀ L h (p :: r) := fun x hx => N x (by
  rcases List.mem_cons.mp hx with rfl | hx
  · exact .head _
  · exact .tail _ (.tail _ hx))
theorem pos_of {a b c : Nat} (h2 : a ≤ c) (h : a = b + 1) : 0 < c := Nat.lt_of_lt_of_le (h ▸ Nat.succ_pos b) h2
theorem pos_eq {a b : Nat} (h : a = b + 1) : 0 < a := h ▸ Nat.succ_pos b
theorem hue_self {j : Int} (h0 : 0 ≤ j) (h1 : j < 16) : (Float64.cmp (hueJ j) (hueJ j) == some Ordering.eq) = true := by
  rw [hue_lt h0 h1 h0 h1, if_neg (by omega), if_pos rfl]; rfl
theorem sh_self (κ : Int) : (Float64.cmp (shF κ) (shF κ) == some Ordering.eq) = true := by
  unfold shF
  split <;> decide +kernel
theorem lv_self (κ : Int) : (Float64.cmp (lvF κ) (lvF κ) == some Ordering.eq) = true := by
  unfold lvF
  split <;> decide +kernel
theorem li_self (κ : Int) : (Float64.cmp (liF κ) (liF κ) == some Ordering.eq) = true := by
  unfold liF
  split
  · decide +kernel
  · split <;> decide +kernel
theorem one_self : (Float64.cmp 0x3FF0000000000000 0x3FF0000000000000 == some Ordering.eq) = true := by decide +kernel
theorem News_dropA {h₀ h : Heap} {L : Addr} {p : Addr × Obj} {r : List (Addr × Obj)} (N : News h₀ L h (p :: r)) : News h₀ L h r := fun x hx => N x (.tail _ hx)
theorem sh_lt (κ : Int) : (Float64.cmp (shF κ) 4604930618986332160 == some Ordering.lt) = decide (κ = 2) := by
  unfold shF
  split
  · rename_i h; rw [decide_eq_true h]; decide +kernel
  · rename_i h; rw [decide_eq_false h]; decide +kernel
theorem lv_lt (κ : Int) : (Float64.cmp (lvF κ) 4604930618986332160 == some Ordering.lt) = decide (κ = 1) := by
  unfold lvF
  split
  · rename_i h; rw [decide_eq_true h]; decide +kernel
  · rename_i h; rw [decide_eq_false h]; decide +kernel
theorem swap2 {α : Type} {p a b : α} {r : List α} (h : p ∈ a :: r) : p ∈ a :: b :: r := by
  rcases List.mem_cons.mp h with rfl | h
  · exact .head _
  · exact .tail _ (.tail _ h)
theorem li_gt (κ : Int) : (Float64.cmp (liF κ) 4603804719079489536 == some Ordering.gt) = decide (κ ≠ 0 ∧ κ ≠ 1) := by
  unfold liF
  split
  · rename_i h; rw [decide_eq_false (by omega)]; decide +kernel
  · split
    · rename_i h; rw [decide_eq_false (by omega)]; decide +kernel
    · rename_i h1 h2; rw [decide_eq_true ⟨h1, h2⟩]; decide +kernel
theorem li_lt (κ : Int) : (Float64.cmp (liF κ) 4600427019358961664 == some Ordering.lt) = decide (κ = 1) := by
  unfold liF
  split
  · rename_i h; rw [decide_eq_false (by omega)]; decide +kernel
  · split
    · rename_i h; rw [decide_eq_true h]; decide +kernel
    · rename_i h1 h2; rw [decide_eq_false h2]; decide +kernel
theorem big_no {x : Int} (h0 : 0 ≤ x) (h3 : x < 3) (h : 2 ^ 1024 - 2 ^ 970 ≤ x.natAbs) : False := by
  have : 3 ≤ 2 ^ 1024 - 2 ^ 970 := by decide +kernel
  omega

set_option maxRecDepth 100000 in
set_option maxHeartbeats 8000000 in
theorem law_turn {w : World} {mean : ExcName → Option Value} {mg mb : Str → Option Value} {base h₀ : Heap} {L : Addr} {name qual : Str} {scope : Scope} {cdv : Value} {body : List Stmt} {s : Shared} {m : Str → Option Value} {k : Nat} {t : Tok} {Q : Flow → Shared → Prop} {E : Value → Shared → Prop}
    {aS aK aH aC aO aN aG I : Addr} {kS kK kH kC kO kN kG : Nat} {wS wK wH wC wO wN wG : List Value} {sm km cm om : List Int} {o1 o2 o3 o4 o5 it : Obj} {tups : List (Addr × Obj)}
    (hlaw : IsLaw w name qual scope cdv body) (B' : Below callerA base [] h₀) (X' : (heapK w.params).In h₀) (T' : TopV mean mg mb h₀)
    (d1 : o1.data = .cell (some (.ref aS))) (d2 : o2.data = .cell (some (.ref aK))) (d3 : o3.data = .cell (some (.ref aH))) (d5 : o5.data = .cell (some (.ref aO)))
    (iS : IntsAre wS sm) (nS : sm.length = 8) (iK : IntsAre wK km) (nK : km.length = 8) (iO : IntsAre wO om) (nO : om.length = 8) (fH : FlAre wH (fun k => hueJ (plJ sm k))) (nH : wH.length = 8)
    (hk8 : k < 8) (bK : 0 ≤ km.getD k 0 ∧ km.getD k 0 ≤ 2) (bO : 0 ≤ om.getD k 0 ∧ om.getD k 0 ≤ 2) (b2 : km.getD k 0 = 2 ↔ om.getD k 0 = 2)
    (hseen : m (Str.ofString "seen") = some (.ref aN)) (hagain : m (Str.ofString "again") = some (.ref aG))
    (F : Fr h₀ L s.heap (fun y => if y = Str.ofString "k" then some (.int (k : Int) t) else m y))
    (N : News h₀ L s.heap ((I, it) :: (aG, listOf wG.toArray kG) :: (aN, listOf wN.toArray kN) :: (aO, listOf wO.toArray kO) :: (aC, listOf wC.toArray kC) :: (aH, listOf wH.toArray kH) :: (aK, listOf wK.toArray kK) :: (aS, listOf wS.toArray kS) :: (L + 1 + 1 + 1 + 1 + 1, o5) :: (L + 1 + 1 + 1 + 1, o4) :: (L + 1 + 1 + 1, o3) :: (L + 1 + 1, o2) :: (L + 1, o1) :: tups))
    (wN8 : wN.length ≤ 8) (wG8 : wG.length ≤ 8)
    (neN : ∀ p ∈ ((aO, listOf wO.toArray kO) :: (aC, listOf wC.toArray kC) :: (aH, listOf wH.toArray kH) :: (aK, listOf wK.toArray kK) :: (aS, listOf wS.toArray kS) :: (L + 1 + 1 + 1 + 1 + 1, o5) :: (L + 1 + 1 + 1 + 1, o4) :: (L + 1 + 1 + 1, o3) :: (L + 1 + 1, o2) :: (L + 1, o1) :: tups), p.1 ≠ aN)
    (neG : ∀ p ∈ ((aO, listOf wO.toArray kO) :: (aC, listOf wC.toArray kC) :: (aH, listOf wH.toArray kH) :: (aK, listOf wK.toArray kK) :: (aS, listOf wS.toArray kS) :: (L + 1 + 1 + 1 + 1 + 1, o5) :: (L + 1 + 1 + 1 + 1, o4) :: (L + 1 + 1 + 1, o3) :: (L + 1 + 1, o2) :: (L + 1, o1) :: tups), p.1 ≠ aG)
    (hNG : @Ne Nat aN aG) (hIN : @Ne Nat I aN) (hIG : @Ne Nat I aG)
    (ret : ∀ h' tk m' a1 a2 (u1 u2 u3 u4 : Tok), (@LT.lt Nat _ 0 u1 ∧ @LE.le Nat _ s.toks u1 ∧ @LT.lt Nat _ u1 tk) → (@LT.lt Nat _ 0 u3 ∧ @LE.le Nat _ s.toks u3 ∧ @LT.lt Nat _ u3 tk) → Fr h₀ L h' m' → m' (Str.ofString "seen") = some (.ref aN) → m' (Str.ofString "again") = some (.ref aG) →
      News h₀ L h' ((I, it) :: (aG, listOf (wG ++ [Value.ref a2]).toArray (kG + 1)) :: (aN, listOf (wN ++ [Value.ref a1]).toArray (kN + 1)) :: (aO, listOf wO.toArray kO) :: (aC, listOf wC.toArray kC) :: (aH, listOf wH.toArray kH) :: (aK, listOf wK.toArray kK) :: (aS, listOf wS.toArray kS) :: (L + 1 + 1 + 1 + 1 + 1, o5) :: (L + 1 + 1 + 1 + 1, o4) :: (L + 1 + 1 + 1, o3) :: (L + 1 + 1, o2) :: (L + 1, o1) ::
        (a2, tup2 (hueJ (plJ sm k)) (signS (plJ sm k) (om.getD k 0)) u1 u2) :: (a1, tup2 (hueJ (plJ sm k)) (signS (plJ sm k) (km.getD k 0)) u3 u4) :: tups) →
      @Ne Nat a1 aN → @Ne Nat a1 aG → @Ne Nat a1 I → @Ne Nat a2 aN → @Ne Nat a2 aG → @Ne Nat a2 I → Q .next { s with heap := h', toks := tk }) :
    wpAny (model PG w) (callerA.deeper (envOfC qual scope L 109 cdv)) (execs (forBody body 7) (envOfC qual scope L 109 cdv)) Q E s := by
  w_on
  refine' law_elim (P := fun qual scope cdv body => wpAny (model PG w) (callerA.deeper (envOfC qual scope L 109 cdv)) (execs (forBody body 7) (envOfC qual scope L 109 cdv)) Q E s) hlaw ?ho ?_
  (case ho => k_is)
  clear hlaw
  dsimp only [forBody, List.drop]
  have hpl := plJ_bd (sm := sm) hk8
  have htr := trJ_bd sm k
  obtain ⟨tH, ptH, hxH⟩ : ∃ tH, @LT.lt Nat _ 0 tH ∧ wH[k]? = some (.float (hueJ (plJ sm k)) tH) := by
    have hlt : k < wH.length := by omega
    obtain ⟨tH, h, hp⟩ := fH k wH[k] (by simp [hlt])
    exact ⟨tH, hp, by simp [hlt, h]⟩
  obtain ⟨n1, r1, g1, b1, hn1, n10, n124, T1⟩ := told_all hpl.1 hpl.2 htr.1 htr.2 bK.1 bK.2
  obtain ⟨n2, r2, g2, bb2, hn2, n20, n224, T2⟩ := told_all hpl.1 hpl.2 htr.1 htr.2 bO.1 bO.2
  rw [show shF (om.getD k 0) = shF (km.getD k 0) by unfold shF; by_cases h : km.getD k 0 = 2; rw [if_pos h, if_pos (b2.mp h)]; rw [if_neg h, if_neg fun h' => h (b2.mpr h')]] at T2
  (repeat' (first | (walk_at "mine stops"; (fail_if_success (with_reducible (first | (show wpAny _ _ (eval (Expr.IfExp _ _ _ _) _) _ _ _) | (show wpAny _ _ (eval (Expr.Subscript (Expr.List _ _) _ _) _) _ _ _) | (show wpAny _ _ (call (Value.builtin "list.append") _) _ _ _) | (show wpAny _ _ (compareOp _ (Value.ref _) (Value.ref _)) _ _ _) | (show wpAny _ _ (subscriptTail (Expr.Name (Str.ofString "hues") _) _ _ _) _ _ _)))); walk_at "mine step")))
  (try k_unmd)
  (try k_fold)
  refine eval_cutT (fun v => ∃ t, v = .float (shF (km.getD k 0)) t ∧ @LT.lt Nat _ 0 t) (by assumption) (by assumption) ?_ ?_
  · walk1
    (repeat' (first | (walk_at "mine stops"; (fail_if_success (with_reducible (first | (show wpAny _ _ (eval (Expr.IfExp _ _ _ _) _) _ _ _) | (show wpAny _ _ (eval (Expr.Subscript (Expr.List _ _) _ _) _) _ _ _) | (show wpAny _ _ (call (Value.builtin "list.append") _) _ _ _) | (show wpAny _ _ (compareOp _ (Value.ref _) (Value.ref _)) _ _ _) | (show wpAny _ _ (subscriptTail (Expr.Name (Str.ofString "hues") _) _ _ _) _ _ _)))); walk_at "mine step")))
    · exact EvEnd.mk (by assumption) (by assumption) (fun p hp => hp) ⟨_, congrArg (Value.float · _) (if_pos ‹km.getD ((k : Nat) : Int).toNat 0 = 2›).symm, by (try dsimp only); first | exact Nat.succ_pos _ | exact pos_eq (by assumption) | omega⟩
    · exact EvEnd.mk (by assumption) (by assumption) (fun p hp => hp) ⟨_, congrArg (Value.float · _) (if_neg ‹km.getD ((k : Nat) : Int).toNat 0 ≠ 2›).symm, by (try dsimp only); first | exact Nat.succ_pos _ | exact pos_eq (by assumption) | omega⟩
  rintro _ h1 tk1 F1 N1 htk1 ⟨tS, rfl, ptS⟩
  (try dsimp only at htk1)
  (try dsimp only)
  (repeat' (first | (walk_at "mine stops"; (fail_if_success (with_reducible (first | (show wpAny _ _ (eval (Expr.IfExp _ _ _ _) _) _ _ _) | (show wpAny _ _ (eval (Expr.Subscript (Expr.List _ _) _ _) _) _ _ _) | (show wpAny _ _ (call (Value.builtin "list.append") _) _ _ _) | (show wpAny _ _ (compareOp _ (Value.ref _) (Value.ref _)) _ _ _) | (show wpAny _ _ (subscriptTail (Expr.Name (Str.ofString "hues") _) _ _ _) _ _ _)))); walk_at "mine step")))
  (try k_unmd)
  (try k_fold)
  refine eval_cutT (fun v => ∃ t, v = .float (lvF (km.getD k 0)) t ∧ @LT.lt Nat _ 0 t) (by assumption) (by assumption) ?_ ?_
  · walk1
    (repeat' (first | (walk_at "mine stops"; (fail_if_success (with_reducible (first | (show wpAny _ _ (eval (Expr.IfExp _ _ _ _) _) _ _ _) | (show wpAny _ _ (eval (Expr.Subscript (Expr.List _ _) _ _) _) _ _ _) | (show wpAny _ _ (call (Value.builtin "list.append") _) _ _ _) | (show wpAny _ _ (compareOp _ (Value.ref _) (Value.ref _)) _ _ _) | (show wpAny _ _ (subscriptTail (Expr.Name (Str.ofString "hues") _) _ _ _) _ _ _)))); walk_at "mine step")))
    · exact EvEnd.mk (by assumption) (by assumption) (fun p hp => hp) ⟨_, congrArg (Value.float · _) (if_pos ‹km.getD ((k : Nat) : Int).toNat 0 = 1›).symm, by (try dsimp only); first | exact Nat.succ_pos _ | exact pos_eq (by assumption) | omega⟩
    · exact EvEnd.mk (by assumption) (by assumption) (fun p hp => hp) ⟨_, congrArg (Value.float · _) (if_neg ‹km.getD ((k : Nat) : Int).toNat 0 ≠ 1›).symm, by (try dsimp only); first | exact Nat.succ_pos _ | exact pos_eq (by assumption) | omega⟩
  rintro _ h2 tk2 F2 N2 htk2 ⟨tV, rfl, ptV⟩
  (try dsimp only at htk2)
  (try dsimp only)
  (repeat' (first | (walk_at "mine stops"; (fail_if_success (with_reducible (first | (show wpAny _ _ (eval (Expr.IfExp _ _ _ _) _) _ _ _) | (show wpAny _ _ (eval (Expr.Subscript (Expr.List _ _) _ _) _) _ _ _) | (show wpAny _ _ (call (Value.builtin "list.append") _) _ _ _) | (show wpAny _ _ (compareOp _ (Value.ref _) (Value.ref _)) _ _ _) | (show wpAny _ _ (subscriptTail (Expr.Name (Str.ofString "hues") _) _ _ _) _ _ _)))); walk_at "mine step")))
  refine' item_fl ?z1 ?z2 ?z3 ?_ ?z4 ?z5
  (case z1 => exact News.isList (by k_asm) (by k_mem))
  (case z2 => assumption)
  (case z3 => assumption)
  (case z4 => with_unfolding_all rfl)
  (case z5 => intro _; with_unfolding_all rfl)
  (try dsimp only)
  (repeat' (first | (walk_at "mine stops"; (fail_if_success (with_reducible (first | (show wpAny _ _ (eval (Expr.IfExp _ _ _ _) _) _ _ _) | (show wpAny _ _ (eval (Expr.Subscript (Expr.List _ _) _ _) _) _ _ _) | (show wpAny _ _ (call (Value.builtin "list.append") _) _ _ _) | (show wpAny _ _ (compareOp _ (Value.ref _) (Value.ref _)) _ _ _) | (show wpAny _ _ (subscriptTail (Expr.Name (Str.ofString "hues") _) _ _ _) _ _ _)))); walk_at "mine step")))
  · exact (big_no htr.1 htr.2 (by assumption)).elim
  refine' call_useT (dp := 320) (un := 1000) ?u1 ?u2 ?u3 ?u4 ?u5 ?v1 ?v2 ?v3 ?u6 ?u7 ?v4 ?v5 ?u8 ?_
  (case u1 => k_asm)
  (case u2 => k_asm)
  (case u3 => k_asm)
  (case u4 => k_asm)
  (case u5 => k_asm)
  (case v1 => exact rfl)
  (case v2 => exact rfl)
  (case v3 => exact rfl)
  (case v4 => exact rfl)
  (case v5 => exact rfl)
  (case u6 => exact Nat.le_of_ble_eq_true rfl)
  (case u7 => exact Nat.le_of_ble_eq_true rfl)
  (case u8 => exact fun G ret => c_hsvT (x := Float64.add (hueJ (plJ sm k)) (Float64.ofInt (trJ sm k))) (y := shF (km.getD k 0)) (z := lvF (km.getD k 0)) G ptV (by (try dsimp only); first | exact Nat.succ_pos _ | exact pos_eq (by assumption) | omega) (sh_nz _) hn1 n10 n124 ret)
  rintro _ h3 tk3 _ F3 N3 hne3 - htk3 ⟨r1', g1', b1', hf1, aR, u1, u2, u3, rfl, rfl, pu1, pu2, pu3⟩
  (try dsimp only at htk3)
  obtain ⟨rfl, rfl, rfl⟩ : r1 = r1' ∧ g1 = g1' ∧ b1 = b1' := by
    have := T1.f.symm.trans hf1
    simpa using this
  dsimp only [List.cons_append, List.nil_append] at N3
  (try dsimp only)
  (repeat' (first | (walk_at "mine stops"; (fail_if_success (with_reducible (first | (show wpAny _ _ (eval (Expr.IfExp _ _ _ _) _) _ _ _) | (show wpAny _ _ (eval (Expr.Subscript (Expr.List _ _) _ _) _) _ _ _) | (show wpAny _ _ (call (Value.builtin "list.append") _) _ _ _) | (show wpAny _ _ (compareOp _ (Value.ref _) (Value.ref _)) _ _ _) | (show wpAny _ _ (subscriptTail (Expr.Name (Str.ofString "hues") _) _ _ _) _ _ _)))); walk_at "mine step")))
  clear hne3 hf1
  refine' call_useT (dp := 320) (un := 1000) ?u1 ?u2 ?u3 ?u4 ?u5 ?v1 ?v2 ?v3 ?u6 ?u7 ?v4 ?v5 ?u8 ?_
  (case u1 => k_asm)
  (case u2 => k_asm)
  (case u3 => k_asm)
  (case u4 => k_asm)
  (case u5 => k_asm)
  (case v1 => exact rfl)
  (case v2 => exact rfl)
  (case v3 => exact rfl)
  (case v4 => exact rfl)
  (case v5 => exact rfl)
  (case u6 => exact Nat.le_of_ble_eq_true rfl)
  (case u7 => exact Nat.le_of_ble_eq_true rfl)
  (case u8 => exact fun G ret => c_rgbT (x := r1) (y := g1) (z := b1) G pu1 pu2 pu3 (by (try dsimp only); first | exact Nat.succ_pos _ | exact pos_eq (by assumption) | omega) T1.ne T1.z1 T1.z2 ret)
  rintro _ h4 tk4 _ F4 N4 hne4 - htk4 ⟨aT, v1, v2, v3, rfl, rfl, pv1, pv1', pv2, pv3⟩
  (try dsimp only at htk4 pv1)
  have pp1 : @LT.lt Nat _ 0 v1 := pos_of pv1 (by assumption)
  have ps1 : @LE.le Nat _ s.toks v1 := by omega
  have e1 : @Ne Nat aT I := hne4 _ (.head _) _ (.tail _ (.head _))
  have e2 : @Ne Nat aT aG := hne4 _ (.head _) _ (.tail _ (.tail _ (.head _)))
  have e3 : @Ne Nat aT aN := hne4 _ (.head _) _ (.tail _ (.tail _ (.tail _ (.head _))))
  clear hne4
  rw [T1.h, T1.s, T1.v] at N4
  replace N4 := News_drop1 N4
  (try dsimp only)
  (repeat' (first | (walk_at "mine stops"; (fail_if_success (with_reducible (first | (show wpAny _ _ (eval (Expr.IfExp _ _ _ _) _) _ _ _) | (show wpAny _ _ (eval (Expr.Subscript (Expr.List _ _) _ _) _) _ _ _) | (show wpAny _ _ (call (Value.builtin "list.append") _) _ _ _) | (show wpAny _ _ (compareOp _ (Value.ref _) (Value.ref _)) _ _ _) | (show wpAny _ _ (subscriptTail (Expr.Name (Str.ofString "hues") _) _ _ _) _ _ _)))); walk_at "mine step")))
  refine' item_fl ?z1 ?z2 ?z3 ?_ ?z4 ?z5
  (case z1 => exact News.isList (by k_asm) (by k_mem))
  (case z2 => assumption)
  (case z3 => assumption)
  (case z4 => with_unfolding_all rfl)
  (case z5 => intro _; with_unfolding_all rfl)
  (try dsimp only)
  (repeat' (first | (walk_at "mine stops"; (fail_if_success (with_reducible (first | (show wpAny _ _ (eval (Expr.IfExp _ _ _ _) _) _ _ _) | (show wpAny _ _ (eval (Expr.Subscript (Expr.List _ _) _ _) _) _ _ _) | (show wpAny _ _ (call (Value.builtin "list.append") _) _ _ _) | (show wpAny _ _ (compareOp _ (Value.ref _) (Value.ref _)) _ _ _) | (show wpAny _ _ (subscriptTail (Expr.Name (Str.ofString "hues") _) _ _ _) _ _ _)))); walk_at "mine step")))
  rename_i D1 hD1 FD1 ND1 lD1
  refine ne_tup3 (K := heapK w.params) (X'.keeps FD1.keep) (booked_none w) (ND1 _ (.tail _ (.head _))).1 (ND1 _ (.head _)).1 pp1 pv2 pv3 ptH ptS ptV (hue_self hpl.1 hpl.2) (sh_self _) (lv_self _) ?hu ?_
  (case hu => exact Nat.lt_of_le_of_lt (Nat.le_of_ble_eq_true rfl) room_1000)
  replace ND1 := News_dropA ND1
  (try dsimp only)
  (repeat' (first | (walk_at "mine stops"; (fail_if_success (with_reducible (first | (show wpAny _ _ (eval (Expr.IfExp _ _ _ _) _) _ _ _) | (show wpAny _ _ (eval (Expr.Subscript (Expr.List _ _) _ _) _) _ _ _) | (show wpAny _ _ (call (Value.builtin "list.append") _) _ _ _) | (show wpAny _ _ (compareOp _ (Value.ref _) (Value.ref _)) _ _ _) | (show wpAny _ _ (subscriptTail (Expr.Name (Str.ofString "hues") _) _ _ _) _ _ _)))); walk_at "mine step")))
  (try k_unmd)
  (try k_fold)
  refine eval_cutT (fun v => ∃ t, v = .int (km.getD k 0) t) (by assumption) (by assumption) ?_ ?_
  · walk1
    (repeat' (first | (walk_at "mine stops"; (fail_if_success (with_reducible (first | (show wpAny _ _ (eval (Expr.IfExp _ _ _ _) _) _ _ _) | (show wpAny _ _ (eval (Expr.Subscript (Expr.List _ _) _ _) _) _ _ _) | (show wpAny _ _ (call (Value.builtin "list.append") _) _ _ _) | (show wpAny _ _ (compareOp _ (Value.ref _) (Value.ref _)) _ _ _) | (show wpAny _ _ (subscriptTail (Expr.Name (Str.ofString "hues") _) _ _ _) _ _ _)))); walk_at "mine step")))
    · have hb := ‹(Float64.cmp (shF _) _ == some Ordering.lt) = true›
      rw [sh_lt] at hb
      exact EvEnd.mk (by assumption) (by assumption) (fun p hp => hp) ⟨_, congrArg (Value.int · _) (of_decide_eq_true hb).symm⟩
    walk1
    (repeat' (first | (walk_at "mine stops"; (fail_if_success (with_reducible (first | (show wpAny _ _ (eval (Expr.IfExp _ _ _ _) _) _ _ _) | (show wpAny _ _ (eval (Expr.Subscript (Expr.List _ _) _ _) _) _ _ _) | (show wpAny _ _ (call (Value.builtin "list.append") _) _ _ _) | (show wpAny _ _ (compareOp _ (Value.ref _) (Value.ref _)) _ _ _) | (show wpAny _ _ (subscriptTail (Expr.Name (Str.ofString "hues") _) _ _ _) _ _ _)))); walk_at "mine step")))
    · have hb := ‹(Float64.cmp (lvF _) _ == some Ordering.lt) = true›
      rw [lv_lt] at hb
      exact EvEnd.mk (by assumption) (by assumption) (fun p hp => hp) ⟨_, congrArg (Value.int · _) (of_decide_eq_true hb).symm⟩
    · have ha := ‹(Float64.cmp (shF _) _ == some Ordering.lt) = false›
      have hb := ‹(Float64.cmp (lvF _) _ == some Ordering.lt) = false›
      rw [sh_lt] at ha
      rw [lv_lt] at hb
      have ha' := of_decide_eq_false ha
      have hb' := of_decide_eq_false hb
      exact EvEnd.mk (by assumption) (by assumption) (fun p hp => hp) ⟨_, congrArg (Value.int · _) (by omega : (0 : Int) = km.getD k 0)⟩
  rintro _ h5 tk5 F5 N5 htk5 ⟨tQ, rfl⟩
  (try dsimp only at htk5)
  (try dsimp only)
  (repeat' (first | (walk_at "mine stops"; (fail_if_success (with_reducible (first | (show wpAny _ _ (eval (Expr.IfExp _ _ _ _) _) _ _ _) | (show wpAny _ _ (eval (Expr.Subscript (Expr.List _ _) _ _) _) _ _ _) | (show wpAny _ _ (call (Value.builtin "list.append") _) _ _ _) | (show wpAny _ _ (compareOp _ (Value.ref _) (Value.ref _)) _ _ _) | (show wpAny _ _ (subscriptTail (Expr.Name (Str.ofString "hues") _) _ _ _) _ _ _)))); walk_at "mine step")))
  refine' call_useT (dp := 400) (un := 2000) ?u1 ?u2 ?u3 ?u4 ?u5 ?v1 ?v2 ?v3 ?u6 ?u7 ?v4 ?v5 ?u8 ?_
  (case u1 => k_asm)
  (case u2 => k_asm)
  (case u3 => k_asm)
  (case u4 => k_asm)
  (case u5 => k_asm)
  (case v1 => exact rfl)
  (case v2 => exact rfl)
  (case v3 => exact rfl)
  (case v4 => exact rfl)
  (case v5 => exact rfl)
  (case u6 => exact Nat.le_of_ble_eq_true rfl)
  (case u7 => exact Nat.le_of_ble_eq_true rfl)
  (case u8 => exact fun G ret => c_sign G (hue_place hpl.1 hpl.2) hpl.1 hpl.2 bK.1 bK.2 ret)
  rintro _ h6 tk6 _ F6 N6 - - htk6 ⟨tX, rfl, rfl⟩
  (try dsimp only at htk6)
  dsimp only [List.nil_append] at N6
  (try dsimp only)
  (repeat' (first | (walk_at "mine stops"; (fail_if_success (with_reducible (first | (show wpAny _ _ (eval (Expr.IfExp _ _ _ _) _) _ _ _) | (show wpAny _ _ (eval (Expr.Subscript (Expr.List _ _) _ _) _) _ _ _) | (show wpAny _ _ (call (Value.builtin "list.append") _) _ _ _) | (show wpAny _ _ (compareOp _ (Value.ref _) (Value.ref _)) _ _ _) | (show wpAny _ _ (subscriptTail (Expr.Name (Str.ofString "hues") _) _ _ _) _ _ _)))); walk_at "mine step")))
  rename_i a1 hA1 FA1 NA1 lA1
  obtain ⟨l1, l2, l3, l4, -⟩ := lA1
  refine append_K FA1 NA1 (.tail (Nat.ne_of_gt l4) (.tail e3 (.tail hIN (.tail (Ne.symm hNG) (.head neN))))) ?_ ?z
  (case z => rw [List.size_toArray, sizeLine_eq]; omega)
  intro h7 F7 N7
  rw [List.push_toArray] at N7
  replace N7 : News h₀ L h7 _ := fun p hp => N7 p (swap2 hp)
  clear FA1 NA1
  (try dsimp only)
  (repeat' (first | (walk_at "mine stops"; (fail_if_success (with_reducible (first | (show wpAny _ _ (eval (Expr.IfExp _ _ _ _) _) _ _ _) | (show wpAny _ _ (eval (Expr.Subscript (Expr.List _ _) _ _) _) _ _ _) | (show wpAny _ _ (call (Value.builtin "list.append") _) _ _ _) | (show wpAny _ _ (compareOp _ (Value.ref _) (Value.ref _)) _ _ _) | (show wpAny _ _ (subscriptTail (Expr.Name (Str.ofString "hues") _) _ _ _) _ _ _)))); walk_at "mine step")))
  (try k_unmd)
  (try k_fold)
  refine eval_cutT (fun v => ∃ t, v = .float (lvF (om.getD k 0)) t ∧ @LT.lt Nat _ 0 t) (by assumption) (by assumption) ?_ ?_
  · walk1
    (repeat' (first | (walk_at "mine stops"; (fail_if_success (with_reducible (first | (show wpAny _ _ (eval (Expr.IfExp _ _ _ _) _) _ _ _) | (show wpAny _ _ (eval (Expr.Subscript (Expr.List _ _) _ _) _) _ _ _) | (show wpAny _ _ (call (Value.builtin "list.append") _) _ _ _) | (show wpAny _ _ (compareOp _ (Value.ref _) (Value.ref _)) _ _ _) | (show wpAny _ _ (subscriptTail (Expr.Name (Str.ofString "hues") _) _ _ _) _ _ _)))); walk_at "mine step")))
    · exact EvEnd.mk (by assumption) (by assumption) (fun p hp => hp) ⟨_, congrArg (Value.float · _) (if_pos ‹om.getD ((k : Nat) : Int).toNat 0 = 1›).symm, by (try dsimp only); first | exact Nat.succ_pos _ | exact pos_eq (by assumption) | omega⟩
    · exact EvEnd.mk (by assumption) (by assumption) (fun p hp => hp) ⟨_, congrArg (Value.float · _) (if_neg ‹om.getD ((k : Nat) : Int).toNat 0 ≠ 1›).symm, by (try dsimp only); first | exact Nat.succ_pos _ | exact pos_eq (by assumption) | omega⟩
  rintro _ h8 tk8 F8 N8 htk8 ⟨tV2, rfl, ptV2⟩
  (try dsimp only at htk8)
  (try dsimp only)
  (repeat' (first | (walk_at "mine stops"; (fail_if_success (with_reducible (first | (show wpAny _ _ (eval (Expr.IfExp _ _ _ _) _) _ _ _) | (show wpAny _ _ (eval (Expr.Subscript (Expr.List _ _) _ _) _) _ _ _) | (show wpAny _ _ (call (Value.builtin "list.append") _) _ _ _) | (show wpAny _ _ (compareOp _ (Value.ref _) (Value.ref _)) _ _ _) | (show wpAny _ _ (subscriptTail (Expr.Name (Str.ofString "hues") _) _ _ _) _ _ _)))); walk_at "mine step")))
  refine' item_fl ?z1 ?z2 ?z3 ?_ ?z4 ?z5
  (case z1 => exact News.isList (by k_asm) (by k_mem))
  (case z2 => assumption)
  (case z3 => assumption)
  (case z4 => with_unfolding_all rfl)
  (case z5 => intro _; with_unfolding_all rfl)
  (try dsimp only)
  (repeat' (first | (walk_at "mine stops"; (fail_if_success (with_reducible (first | (show wpAny _ _ (eval (Expr.IfExp _ _ _ _) _) _ _ _) | (show wpAny _ _ (eval (Expr.Subscript (Expr.List _ _) _ _) _) _ _ _) | (show wpAny _ _ (call (Value.builtin "list.append") _) _ _ _) | (show wpAny _ _ (compareOp _ (Value.ref _) (Value.ref _)) _ _ _) | (show wpAny _ _ (subscriptTail (Expr.Name (Str.ofString "hues") _) _ _ _) _ _ _)))); walk_at "mine step")))
  refine' call_useT (dp := 320) (un := 1000) ?u1 ?u2 ?u3 ?u4 ?u5 ?v1 ?v2 ?v3 ?u6 ?u7 ?v4 ?v5 ?u8 ?_
  (case u1 => k_asm)
  (case u2 => k_asm)
  (case u3 => k_asm)
  (case u4 => k_asm)
  (case u5 => k_asm)
  (case v1 => exact rfl)
  (case v2 => exact rfl)
  (case v3 => exact rfl)
  (case v4 => exact rfl)
  (case v5 => exact rfl)
  (case u6 => exact Nat.le_of_ble_eq_true rfl)
  (case u7 => exact Nat.le_of_ble_eq_true rfl)
  (case u8 => exact fun G ret => c_hsvT (x := Float64.add (hueJ (plJ sm k)) (Float64.ofInt (trJ sm k))) (y := shF (km.getD k 0)) (z := lvF (om.getD k 0)) G ptV2 (by (try dsimp only); first | exact Nat.succ_pos _ | exact pos_eq (by assumption) | omega) (sh_nz _) hn2 n20 n224 ret)
  rintro _ h9 tk9 _ F9 N9 hne9 - htk9 ⟨r2', g2', b2', hf2, aR2, w1, w2, w3, rfl, rfl, pw1, pw2, pw3⟩
  (try dsimp only at htk9)
  obtain ⟨rfl, rfl, rfl⟩ : r2 = r2' ∧ g2 = g2' ∧ bb2 = b2' := by
    have := T2.f.symm.trans hf2
    simpa using this
  dsimp only [List.cons_append, List.nil_append] at N9
  (try dsimp only)
  (repeat' (first | (walk_at "mine stops"; (fail_if_success (with_reducible (first | (show wpAny _ _ (eval (Expr.IfExp _ _ _ _) _) _ _ _) | (show wpAny _ _ (eval (Expr.Subscript (Expr.List _ _) _ _) _) _ _ _) | (show wpAny _ _ (call (Value.builtin "list.append") _) _ _ _) | (show wpAny _ _ (compareOp _ (Value.ref _) (Value.ref _)) _ _ _) | (show wpAny _ _ (subscriptTail (Expr.Name (Str.ofString "hues") _) _ _ _) _ _ _)))); walk_at "mine step")))
  clear hne9 hf2
  refine' call_useT (dp := 320) (un := 1000) ?u1 ?u2 ?u3 ?u4 ?u5 ?v1 ?v2 ?v3 ?u6 ?u7 ?v4 ?v5 ?u8 ?_
  (case u1 => k_asm)
  (case u2 => k_asm)
  (case u3 => k_asm)
  (case u4 => k_asm)
  (case u5 => k_asm)
  (case v1 => exact rfl)
  (case v2 => exact rfl)
  (case v3 => exact rfl)
  (case v4 => exact rfl)
  (case v5 => exact rfl)
  (case u6 => exact Nat.le_of_ble_eq_true rfl)
  (case u7 => exact Nat.le_of_ble_eq_true rfl)
  (case u8 => exact fun G ret => c_hlsT (x := r2) (y := g2) (z := bb2) G pw1 pw2 pw3 (by (try dsimp only); first | exact Nat.succ_pos _ | exact pos_eq (by assumption) | omega) T2.ne T2.z3 T2.z4 T2.z2 ret)
  rintro _ h10 tk10 _ F10 N10 hne10 - htk10 ⟨aU, x1, x2, x3, rfl, rfl, px1, px1', px2, px3⟩
  (try dsimp only at htk10 px1)
  have pp2 : @LT.lt Nat _ 0 x1 := pos_of px1 (by assumption)
  have pm : @LE.le Nat _ v1 x1 := by omega
  have ps2 : @LE.le Nat _ s.toks x1 := Nat.le_trans ps1 pm
  have i0 : @Ne Nat aU a1 := hne10 _ (.head _) _ (.tail _ (.head _))
  have i1 : @Ne Nat aU I := hne10 _ (.head _) _ (.tail _ (.tail _ (.head _)))
  have i2 : @Ne Nat aU aG := hne10 _ (.head _) _ (.tail _ (.tail _ (.tail _ (.head _))))
  have i3 : @Ne Nat aU aN := hne10 _ (.head _) _ (.tail _ (.tail _ (.tail _ (.tail _ (.head _)))))
  clear hne10
  rw [T2.h, T2.l, T2.t] at N10
  replace N10 := News_drop1 N10
  (try dsimp only)
  (repeat' (first | (walk_at "mine stops"; (fail_if_success (with_reducible (first | (show wpAny _ _ (eval (Expr.IfExp _ _ _ _) _) _ _ _) | (show wpAny _ _ (eval (Expr.Subscript (Expr.List _ _) _ _) _) _ _ _) | (show wpAny _ _ (call (Value.builtin "list.append") _) _ _ _) | (show wpAny _ _ (compareOp _ (Value.ref _) (Value.ref _)) _ _ _) | (show wpAny _ _ (subscriptTail (Expr.Name (Str.ofString "hues") _) _ _ _) _ _ _)))); walk_at "mine step")))
  refine' item_fl ?z1 ?z2 ?z3 ?_ ?z4 ?z5
  (case z1 => exact News.isList (by k_asm) (by k_mem))
  (case z2 => assumption)
  (case z3 => assumption)
  (case z4 => with_unfolding_all rfl)
  (case z5 => intro _; with_unfolding_all rfl)
  (try dsimp only)
  (repeat' (first | (walk_at "mine stops"; (fail_if_success (with_reducible (first | (show wpAny _ _ (eval (Expr.IfExp _ _ _ _) _) _ _ _) | (show wpAny _ _ (eval (Expr.Subscript (Expr.List _ _) _ _) _) _ _ _) | (show wpAny _ _ (call (Value.builtin "list.append") _) _ _ _) | (show wpAny _ _ (compareOp _ (Value.ref _) (Value.ref _)) _ _ _) | (show wpAny _ _ (subscriptTail (Expr.Name (Str.ofString "hues") _) _ _ _) _ _ _)))); walk_at "mine step")))
  (try k_unmd)
  (try k_fold)
  refine eval_cutT (fun v => ∃ t, v = .float (liF (om.getD k 0)) t ∧ @LT.lt Nat _ 0 t) (by assumption) (by assumption) ?_ ?_
  · walk1
    (repeat' (first | (walk_at "mine stops"; (fail_if_success (with_reducible (first | (show wpAny _ _ (eval (Expr.IfExp _ _ _ _) _) _ _ _) | (show wpAny _ _ (subscriptTail _ (Expr.Subscript _ _ _) _ _) _ _ _) | (show wpAny _ _ (call (Value.builtin "list.append") _) _ _ _) | (show wpAny _ _ (compareOp _ (Value.ref _) (Value.ref _)) _ _ _) | (show wpAny _ _ (subscriptTail (Expr.Name (Str.ofString "hues") _) _ _ _) _ _ _)))); walk_at "mine step")))
    refine kba_turn (value' := PySem.Expr.Name (PySem.Str.ofString "_") ⟨0, 0, 0, 0⟩) (fun _ => rfl) ?_
    rcases (show om.getD k 0 = 0 ∨ om.getD k 0 = 1 ∨ om.getD k 0 = 2 by omega) with hq | hq | hq
    all_goals
      rw [show om.getD ((k : Nat) : Int).toNat 0 = _ from hq]
      refine item_list (News.isList (by assumption) (.head _)) (by decide) (by decide) rfl ?_ ?c1 ?c2
      (case c1 => with_unfolding_all rfl)
      (case c2 => intro _; with_unfolding_all rfl)
      exact EvEnd.mk (by assumption) (by assumption) (fun p hp => .tail _ hp) ⟨_, congrArg (Value.float · _) (by rw [hq]; rfl), by (try dsimp only); first | exact Nat.succ_pos _ | exact pos_eq (by assumption) | omega⟩
  rintro _ h11 tk11 F11 N11 htk11 ⟨tL, rfl, ptL⟩
  (try dsimp only at htk11)
  (try dsimp only)
  (repeat' (first | (walk_at "mine stops"; (fail_if_success (with_reducible (first | (show wpAny _ _ (eval (Expr.IfExp _ _ _ _) _) _ _ _) | (show wpAny _ _ (eval (Expr.Subscript (Expr.List _ _) _ _) _) _ _ _) | (show wpAny _ _ (call (Value.builtin "list.append") _) _ _ _) | (show wpAny _ _ (compareOp _ (Value.ref _) (Value.ref _)) _ _ _) | (show wpAny _ _ (subscriptTail (Expr.Name (Str.ofString "hues") _) _ _ _) _ _ _)))); walk_at "mine step")))
  rename_i D3 hD3 FD3 ND3 lD3
  refine ne_tup3 (K := heapK w.params) (X'.keeps FD3.keep) (booked_none w) (ND3 _ (.tail _ (.head _))).1 (ND3 _ (.head _)).1 pp2 px2 px3 ptH ptL (show @LT.lt Nat _ 0 _ by (try dsimp only); first | exact Nat.succ_pos _ | exact pos_eq (by assumption) | omega) (hue_self hpl.1 hpl.2) (li_self _) one_self ?hu ?_
  (case hu => exact Nat.lt_of_le_of_lt (Nat.le_of_ble_eq_true rfl) room_1000)
  replace ND3 := News_dropA ND3
  (try dsimp only)
  (repeat' (first | (walk_at "mine stops"; (fail_if_success (with_reducible (first | (show wpAny _ _ (eval (Expr.IfExp _ _ _ _) _) _ _ _) | (show wpAny _ _ (eval (Expr.Subscript (Expr.List _ _) _ _) _) _ _ _) | (show wpAny _ _ (call (Value.builtin "list.append") _) _ _ _) | (show wpAny _ _ (compareOp _ (Value.ref _) (Value.ref _)) _ _ _) | (show wpAny _ _ (subscriptTail (Expr.Name (Str.ofString "hues") _) _ _ _) _ _ _)))); walk_at "mine step")))
  (try k_unmd)
  (try k_fold)
  refine eval_cutT (fun v => ∃ t, v = .int (om.getD k 0) t) (by assumption) (by assumption) ?_ ?_
  · walk1
    (repeat' (first | (walk_at "mine stops"; (fail_if_success (with_reducible (first | (show wpAny _ _ (eval (Expr.IfExp _ _ _ _) _) _ _ _) | (show wpAny _ _ (eval (Expr.Subscript (Expr.List _ _) _ _) _) _ _ _) | (show wpAny _ _ (call (Value.builtin "list.append") _) _ _ _) | (show wpAny _ _ (compareOp _ (Value.ref _) (Value.ref _)) _ _ _) | (show wpAny _ _ (subscriptTail (Expr.Name (Str.ofString "hues") _) _ _ _) _ _ _)))); walk_at "mine step")))
    · have hb := ‹(Float64.cmp (liF _) 4603804719079489536 == some Ordering.gt) = true›
      rw [li_gt] at hb
      have hb' := of_decide_eq_true hb
      exact EvEnd.mk (by assumption) (by assumption) (fun p hp => hp) ⟨_, congrArg (Value.int · _) (by omega : (2 : Int) = om.getD k 0)⟩
    walk1
    (repeat' (first | (walk_at "mine stops"; (fail_if_success (with_reducible (first | (show wpAny _ _ (eval (Expr.IfExp _ _ _ _) _) _ _ _) | (show wpAny _ _ (eval (Expr.Subscript (Expr.List _ _) _ _) _) _ _ _) | (show wpAny _ _ (call (Value.builtin "list.append") _) _ _ _) | (show wpAny _ _ (compareOp _ (Value.ref _) (Value.ref _)) _ _ _) | (show wpAny _ _ (subscriptTail (Expr.Name (Str.ofString "hues") _) _ _ _) _ _ _)))); walk_at "mine step")))
    · have hb := ‹(Float64.cmp (liF _) 4600427019358961664 == some Ordering.lt) = true›
      rw [li_lt] at hb
      exact EvEnd.mk (by assumption) (by assumption) (fun p hp => hp) ⟨_, congrArg (Value.int · _) (of_decide_eq_true hb).symm⟩
    · have ha := ‹(Float64.cmp (liF _) 4603804719079489536 == some Ordering.gt) = false›
      have hb := ‹(Float64.cmp (liF _) 4600427019358961664 == some Ordering.lt) = false›
      rw [li_gt] at ha
      rw [li_lt] at hb
      have ha' := of_decide_eq_false ha
      have hb' := of_decide_eq_false hb
      exact EvEnd.mk (by assumption) (by assumption) (fun p hp => hp) ⟨_, congrArg (Value.int · _) (by omega : (0 : Int) = om.getD k 0)⟩
  rintro _ h12 tk12 F12 N12 htk12 ⟨tQ2, rfl⟩
  (try dsimp only at htk12)
  (try dsimp only)
  (repeat' (first | (walk_at "mine stops"; (fail_if_success (with_reducible (first | (show wpAny _ _ (eval (Expr.IfExp _ _ _ _) _) _ _ _) | (show wpAny _ _ (eval (Expr.Subscript (Expr.List _ _) _ _) _) _ _ _) | (show wpAny _ _ (call (Value.builtin "list.append") _) _ _ _) | (show wpAny _ _ (compareOp _ (Value.ref _) (Value.ref _)) _ _ _) | (show wpAny _ _ (subscriptTail (Expr.Name (Str.ofString "hues") _) _ _ _) _ _ _)))); walk_at "mine step")))
  refine' call_useT (dp := 400) (un := 2000) ?u1 ?u2 ?u3 ?u4 ?u5 ?v1 ?v2 ?v3 ?u6 ?u7 ?v4 ?v5 ?u8 ?_
  (case u1 => k_asm)
  (case u2 => k_asm)
  (case u3 => k_asm)
  (case u4 => k_asm)
  (case u5 => k_asm)
  (case v1 => exact rfl)
  (case v2 => exact rfl)
  (case v3 => exact rfl)
  (case v4 => exact rfl)
  (case v5 => exact rfl)
  (case u6 => exact Nat.le_of_ble_eq_true rfl)
  (case u7 => exact Nat.le_of_ble_eq_true rfl)
  (case u8 => exact fun G ret => c_sign G (hue_place hpl.1 hpl.2) hpl.1 hpl.2 bO.1 bO.2 ret)
  rintro _ h13 tk13 _ F13 N13 - - htk13 ⟨tY, rfl, rfl⟩
  (try dsimp only at htk13)
  dsimp only [List.nil_append] at N13
  (try dsimp only)
  (repeat' (first | (walk_at "mine stops"; (fail_if_success (with_reducible (first | (show wpAny _ _ (eval (Expr.IfExp _ _ _ _) _) _ _ _) | (show wpAny _ _ (eval (Expr.Subscript (Expr.List _ _) _ _) _) _ _ _) | (show wpAny _ _ (call (Value.builtin "list.append") _) _ _ _) | (show wpAny _ _ (compareOp _ (Value.ref _) (Value.ref _)) _ _ _) | (show wpAny _ _ (subscriptTail (Expr.Name (Str.ofString "hues") _) _ _ _) _ _ _)))); walk_at "mine step")))
  rename_i a2 hA2 FA2 NA2 lA2
  obtain ⟨g1, g2, g3, g4, g5, -⟩ := lA2
  refine append_K FA2 NA2 (.tail (Nat.ne_of_gt g4) (.tail i2 (.tail (Nat.ne_of_gt l3) (.tail hIG (.head (List.forall_mem_cons.mpr ⟨hNG, neG⟩)))))) ?_ ?z
  (case z => rw [List.size_toArray, sizeLine_eq]; omega)
  intro h14 F14 N14
  rw [List.push_toArray] at N14
  (try dsimp only)
  (repeat' (first | (walk_at "mine stops"; (fail_if_success (with_reducible (first | (show wpAny _ _ (eval (Expr.IfExp _ _ _ _) _) _ _ _) | (show wpAny _ _ (eval (Expr.Subscript (Expr.List _ _) _ _) _) _ _ _) | (show wpAny _ _ (call (Value.builtin "list.append") _) _ _ _) | (show wpAny _ _ (compareOp _ (Value.ref _) (Value.ref _)) _ _ _) | (show wpAny _ _ (subscriptTail (Expr.Name (Str.ofString "hues") _) _ _ _) _ _ _)))); walk_at "mine step")))
  have pl2 : @LT.lt Nat _ x1 tk13 := by clear ps1 pm ps2 pp1 pp2; omega
  have pl1 : @LT.lt Nat _ v1 tk13 := Nat.lt_of_le_of_lt pm pl2
  refine ret h14 _ _ a1 a2 x1 tY v1 tX ⟨by first | assumption | omega, by first | assumption | omega, by first | assumption | omega⟩ ⟨by first | assumption | omega, by first | assumption | omega, by first | assumption | omega⟩ F14 hseen hagain (fun p hp => N14 p ?_) (Nat.ne_of_gt l4) (Nat.ne_of_gt l3) (Nat.ne_of_gt l2) (Nat.ne_of_gt g5) (Nat.ne_of_gt g4) (Nat.ne_of_gt g3)
  · revert hp
    intro hp
    rcases List.mem_cons.mp hp with rfl | hp
    · exact .tail _ (.tail _ (.tail _ (.head _)))
    rcases List.mem_cons.mp hp with rfl | hp
    · exact .tail _ (.tail _ (.tail _ (.tail _ (.head _))))
    rcases List.mem_cons.mp hp with rfl | hp
    · exact .tail _ (.tail _ (.tail _ (.tail _ (.tail _ (.head _)))))
    rcases List.mem_cons.mp hp with rfl | hp
    · exact .tail _ (.tail _ (.tail _ (.tail _ (.tail _ (.tail _ (.head _))))))
    rcases List.mem_cons.mp hp with rfl | hp
    · exact .tail _ (.tail _ (.tail _ (.tail _ (.tail _ (.tail _ (.tail _ (.head _)))))))
    rcases List.mem_cons.mp hp with rfl | hp
    · exact .tail _ (.tail _ (.tail _ (.tail _ (.tail _ (.tail _ (.tail _ (.tail _ (.head _))))))))
    rcases List.mem_cons.mp hp with rfl | hp
    · exact .tail _ (.tail _ (.tail _ (.tail _ (.tail _ (.tail _ (.tail _ (.tail _ (.tail _ (.head _)))))))))
    rcases List.mem_cons.mp hp with rfl | hp
    · exact .tail _ (.tail _ (.tail _ (.tail _ (.tail _ (.tail _ (.tail _ (.tail _ (.tail _ (.tail _ (.head _))))))))))
    rcases List.mem_cons.mp hp with rfl | hp
    · exact .tail _ (.tail _ (.tail _ (.tail _ (.tail _ (.tail _ (.tail _ (.tail _ (.tail _ (.tail _ (.tail _ (.head _)))))))))))
    rcases List.mem_cons.mp hp with rfl | hp
    · exact .tail _ (.tail _ (.tail _ (.tail _ (.tail _ (.tail _ (.tail _ (.tail _ (.tail _ (.tail _ (.tail _ (.tail _ (.head _))))))))))))
    rcases List.mem_cons.mp hp with rfl | hp
    · exact .tail _ (.tail _ (.tail _ (.tail _ (.tail _ (.tail _ (.tail _ (.tail _ (.tail _ (.tail _ (.tail _ (.tail _ (.tail _ (.head _)))))))))))))
    rcases List.mem_cons.mp hp with rfl | hp
    · exact .tail _ (.tail _ (.tail _ (.tail _ (.tail _ (.tail _ (.tail _ (.tail _ (.tail _ (.tail _ (.tail _ (.tail _ (.tail _ (.tail _ (.head _))))))))))))))
    rcases List.mem_cons.mp hp with rfl | hp
    · exact .tail _ (.tail _ (.tail _ (.tail _ (.tail _ (.tail _ (.tail _ (.tail _ (.tail _ (.tail _ (.tail _ (.tail _ (.tail _ (.tail _ (.tail _ (.head _)))))))))))))))
    rcases List.mem_cons.mp hp with rfl | hp
    · exact .head _
    rcases List.mem_cons.mp hp with rfl | hp
    · exact .tail _ (.tail _ (.head _))
    exact .tail _ (.tail _ (.tail _ (.tail _ (.tail _ (.tail _ (.tail _ (.tail _ (.tail _ (.tail _ (.tail _ (.tail _ (.tail _ (.tail _ (.tail _ (.tail _ (hp))))))))))))))))
end Mine
end

section
open PySem PySem.W PySem.Calls PyProof.Rows
namespace Mine

theorem drop13 {α : Type} {a b c d p : α} {r : List α} (h : p ∈ a :: c :: r) : p ∈ a :: b :: c :: d :: r := by
  rcases List.mem_cons.mp h with rfl | h
  · exact .head _
  · rcases List.mem_cons.mp h with rfl | h
    · exact .tail _ (.tail _ (.head _))
    · exact .tail _ (.tail _ (.tail _ (.tail _ h)))
theorem sink {α : Type} {q : α} {lit inn tl : List α} {p : α} (h : p ∈ q :: (lit ++ (inn ++ tl))) : p ∈ (q :: inn) ++ (lit ++ tl) := by
  simp only [List.mem_cons, List.mem_append] at h ⊢
  rcases h with h | h | h | h
  · exact .inl (.inl h)
  · exact .inr (.inl h)
  · exact .inl (.inr h)
  · exact .inr (.inr h)

set_option maxRecDepth 100000 in
set_option maxHeartbeats 8000000 in
theorem law_r1 {w : World} {mean : ExcName → Option Value} {mg mb : Str → Option Value} {base h₀ : Heap} {L : Addr} {name qual : Str} {scope : Scope} {cdv : Value} {body : List Stmt} {s : Shared} {m : Str → Option Value} {Q : Flow → Shared → Prop} {E : Value → Shared → Prop}
    {aS aK aH aC aO aN aG : Addr} {kS kK kH kC kO kN kG : Nat} {wS wK wH wC wO wN wG : List Value} {sm km cm om : List Int} {o1 o2 o3 o4 o5 : Obj} {tups : List (Addr × Obj)}
    (hlaw : IsLaw w name qual scope cdv body) (B' : Below callerA base [] h₀) (X' : (heapK w.params).In h₀) (T' : TopV mean mg mb h₀)
    (d1 : o1.data = .cell (some (.ref aS))) (d2 : o2.data = .cell (some (.ref aK))) (d3 : o3.data = .cell (some (.ref aH))) (d4 : o4.data = .cell (some (.ref aC))) (d5 : o5.data = .cell (some (.ref aO)))
    (iS : IntsAre wS sm) (nS : sm.length = 8) (iK : IntsAre wK km) (okK : KOk km) (iC : IntsAre wC cm) (hcm : cm = chL km sm) (iO : IntsAre wO om) (hom : om = otL km cm) (fH : FlAre wH (fun k => hueJ (plJ sm k))) (nH : wH.length = 8)
    (hseen : m (Str.ofString "seen") = some (.ref aN)) (hagain : m (Str.ofString "again") = some (.ref aG))
    (F : Fr h₀ L s.heap m) (N : News h₀ L s.heap ((aG, listOf wG.toArray kG) :: (aN, listOf wN.toArray kN) :: (aO, listOf wO.toArray kO) :: (aC, listOf wC.toArray kC) :: (aH, listOf wH.toArray kH) :: (aK, listOf wK.toArray kK) :: (aS, listOf wS.toArray kS) :: (L + 1 + 1 + 1 + 1 + 1, o5) :: (L + 1 + 1 + 1 + 1, o4) :: (L + 1 + 1 + 1, o3) :: (L + 1 + 1, o2) :: (L + 1, o1) :: tups))
    (PN : Pairs s.heap wN sm fun k => signS (plJ sm k) (km.getD k 0)) (inN : ∀ p ∈ wN, ∃ a o, p = .ref a ∧ (a, o) ∈ tups)
    (cont : ∀ h' tk m' aD kD wD t, Fr h₀ L h' m' → m' (Str.ofString "first") = some (.str (S ((stoodOf km (((sm.getD 0 0).fdiv 36).fmod 8)).map (sgK km sm))) t) → m' (Str.ofString "stood") = some (.ref aD) → m' (Str.ofString "again") = some (.ref aG) → IntsAre wD (stoodOf km (((sm.getD 0 0).fdiv 36).fmod 8)) →
      News h₀ L h' ((aD, listOf wD.toArray kD) :: (aG, listOf wG.toArray kG) :: (aO, listOf wO.toArray kO) :: (aC, listOf wC.toArray kC) :: (aH, listOf wH.toArray kH) :: (aK, listOf wK.toArray kK) :: (aS, listOf wS.toArray kS) :: (L + 1 + 1 + 1 + 1 + 1, o5) :: (L + 1 + 1 + 1 + 1, o4) :: (L + 1 + 1 + 1, o3) :: (L + 1 + 1, o2) :: (L + 1, o1) :: tups) → wpAny (model PG w) (callerA.deeper (envOfC qual scope L 109 cdv)) (execs (body.drop 15) (envOfC qual scope L 109 cdv)) Q E { s with heap := h', toks := tk }) :
    wpAny (model PG w) (callerA.deeper (envOfC qual scope L 109 cdv)) (execs (body.drop 8) (envOfC qual scope L 109 cdv)) Q E s := by
  w_on
  revert cont
  refine' law_elim (P := fun qual scope cdv body => (∀ h' tk m' aD kD wD t, Fr h₀ L h' m' → m' (Str.ofString "first") = some (.str (S ((stoodOf km (((sm.getD 0 0).fdiv 36).fmod 8)).map (sgK km sm))) t) → m' (Str.ofString "stood") = some (.ref aD) → m' (Str.ofString "again") = some (.ref aG) → IntsAre wD (stoodOf km (((sm.getD 0 0).fdiv 36).fmod 8)) →
      News h₀ L h' ((aD, listOf wD.toArray kD) :: (aG, listOf wG.toArray kG) :: (aO, listOf wO.toArray kO) :: (aC, listOf wC.toArray kC) :: (aH, listOf wH.toArray kH) :: (aK, listOf wK.toArray kK) :: (aS, listOf wS.toArray kS) :: (L + 1 + 1 + 1 + 1 + 1, o5) :: (L + 1 + 1 + 1 + 1, o4) :: (L + 1 + 1 + 1, o3) :: (L + 1 + 1, o2) :: (L + 1, o1) :: tups) → wpAny (model PG w) (callerA.deeper (envOfC qual scope L 109 cdv)) (execs (body.drop 15) (envOfC qual scope L 109 cdv)) Q E { s with heap := h', toks := tk }) → wpAny (model PG w) (callerA.deeper (envOfC qual scope L 109 cdv)) (execs (body.drop 8) (envOfC qual scope L 109 cdv)) Q E s) hlaw ?ho ?_
  (case ho => k_is)
  intro cont
  clear hlaw
  dsimp only [List.drop] at cont ⊢
  have nK : km.length = 8 := okK.1
  obtain ⟨st, hst⟩ : ∃ st, st = ((sm.getD 0 0).fdiv 36).fmod 8 := ⟨_, rfl⟩
  have st0 : 0 ≤ st ∧ st < 8 := by rw [hst, Int.fmod_eq_emod_of_nonneg _ (by decide)]; omega
  rw [← hst] at cont
  (repeat' (first | (walk_at "mine stops"; (fail_if_success (with_reducible (first | (show wpAny _ _ (call (Value.builtin "sorted") _) _ _ _) | (show wpAny _ _ (compareOp _ (Value.ref _) (Value.ref _)) _ _ _) | (show wpAny _ _ (subscriptTail (Expr.Name (Str.ofString "hues") _) _ _ _) _ _ _) | (show wpAny _ _ (subscriptTail (Expr.Name (Str.ofString "row") _) _ _ _) _ _ _) | (show wpAny _ _ (binaryOp Operator.Add (Value.ref _) (Value.ref _)) _ _ _) | (show wpAny _ _ (call (Value.builtin "str.join") _) _ _ _) | (show wpAny _ _ (execs [_, _, _] _) _ _ _)))); walk_at "mine step")))
  (try k_unmd)
  (try k_fold)
  refine wpAny_Assign_ListComp_free (cl := []) (fun _ => true) (fun v y => ∃ a x sg t u t', v = .ref a ∧ s.heap.get? a = some (tup2 x sg t u) ∧ y = .str sg t') ?c0 ?c1 ?c2 ?c3 ?c4 ?c5 ?c7 ?c8 ?_ ?c6
  (case c0 => with_unfolding_all rfl)
  (case c7 => with_unfolding_all rfl)
  (case c8 => with_unfolding_all rfl)
  (case c1 => with_unfolding_all rfl)
  (case c2 => decide)
  (case c3 => with_unfolding_all rfl)
  (case c4 => decide)
  (case c5 => with_unfolding_all rfl)
  (case c6 => intro _; with_unfolding_all rfl)
  (repeat' (first | (walk_at "mine stops"; (fail_if_success (with_reducible (first | (show wpAny _ _ (call (Value.builtin "sorted") _) _ _ _) | (show wpAny _ _ (compareOp _ (Value.ref _) (Value.ref _)) _ _ _) | (show wpAny _ _ (subscriptTail (Expr.Name (Str.ofString "hues") _) _ _ _) _ _ _) | (show wpAny _ _ (subscriptTail (Expr.Name (Str.ofString "row") _) _ _ _) _ _ _) | (show wpAny _ _ (binaryOp Operator.Add (Value.ref _) (Value.ref _)) _ _ _) | (show wpAny _ _ (call (Value.builtin "str.join") _) _ _ _) | (show wpAny _ _ (execs [_, _, _] _) _ _ _)))); walk_at "mine step")))
  refine sorted8 (K := heapK w.params) F N (News.isList N (.tail _ (.head _))) X' (booked_none w) PN (fun p hp => let ⟨a, o, h1, h2⟩ := inN p hp; ⟨a, o, h1, .tail _ (.tail _ (.tail _ (.tail _ (.tail _ (.tail _ (.tail _ (.tail _ (.tail _ (.tail _ (.tail _ (.tail _ (h2))))))))))))⟩) ?_
  intro aR0 c0 h1 F1 N1 lt1
  refine src_list rfl (News.isList N1 (.head _)) (by simp [sizeLine_eq]) ?_
  rintro it _ ⟨h2, rfl⟩ Sr
  obtain ⟨n8, pa, pt, pu, hp1, hp2⟩ := PN
  have vals : ∀ j, j < 8 → (([7, 4, 1, 6, 3, 0, 5, 2] : List Nat).map fun i => wN.getD i Value.none)[j]? = some (.ref (pa (([7, 4, 1, 6, 3, 0, 5, 2] : List Nat).getD j 0))) := fun j hj => by
    have hq : ∀ j, j < 8 → (([7, 4, 1, 6, 3, 0, 5, 2] : List Nat).getD j 0) < 8 := by decide
    have hv := (hp1 _ (hq j hj)).1
    have hs : ∀ j, j < 8 → ([7, 4, 1, 6, 3, 0, 5, 2] : List Nat)[j]? = some (([7, 4, 1, 6, 3, 0, 5, 2] : List Nat).getD j 0) := by decide
    rw [List.getElem?_map, hs j hj]
    show some (wN.getD _ Value.none) = _
    rw [List.getD_eq_getElem?_getD, hv]; rfl
  refine comp_assignT Sr F1 N1 ?_ ?_
  · intro C i v s₃ m₃ E' hP Fc hm
    have hi8 : i < 8 := by
      have := (List.getElem?_eq_some_iff.mp hP).1
      simpa using this
    rw [vals i hi8] at hP
    cases hP
    have hq : ∀ j, j < 8 → (([7, 4, 1, 6, 3, 0, 5, 2] : List Nat).getD j 0) < 8 := by decide
    obtain ⟨hv1, hv2, hv3⟩ := hp1 _ (hq i hi8)
    obtain ⟨a', o', e', hm'⟩ := inN _ (List.mem_of_getElem? hv1)
    cases e'
    have g0 := (N _ (.tail _ (.tail _ (.tail _ (.tail _ (.tail _ (.tail _ (.tail _ (.tail _ (.tail _ (.tail _ (.tail _ (.tail _ (hm')))))))))))))).1
    rw [hv2] at g0
    cases g0
    have gt : IsTup s₃.heap (pa (([7, 4, 1, 6, 3, 0, 5, 2] : List Nat).getD i 0)) _ := ⟨_, Fc.keep _ _ (N1 _ (.tail _ (.tail _ (.tail _ (.tail _ (.tail _ (.tail _ (.tail _ (.tail _ (.tail _ (.tail _ (.tail _ (.tail _ (.tail _ (hm'))))))))))))))).1, rfl, 0, rfl⟩
    (repeat' (first | (walk_at "mine stops"; (fail_if_success (with_reducible (first | (show wpAny _ _ (call (Value.builtin "sorted") _) _ _ _) | (show wpAny _ _ (compareOp _ (Value.ref _) (Value.ref _)) _ _ _) | (show wpAny _ _ (subscriptTail (Expr.Name (Str.ofString "hues") _) _ _ _) _ _ _) | (show wpAny _ _ (subscriptTail (Expr.Name (Str.ofString "row") _) _ _ _) _ _ _) | (show wpAny _ _ (binaryOp Operator.Add (Value.ref _) (Value.ref _)) _ _ _) | (show wpAny _ _ (call (Value.builtin "str.join") _) _ _ _) | (show wpAny _ _ (execs [_, _, _] _) _ _ _)))); walk_at "mine step")))
    exact CEnd.mk (fun _ _ e => e) ⟨_, _, _, _, _, _, rfl, hv2, rfl⟩
  intro aW kW wW h3 tk3 nW hW F3 N3 ne3
  have hR : ∀ (j : Nat) (y : Value), wW[j]? = some y → ∃ t, y = .str (S [(rowL (sgK km sm)).getD j 0]) t := fun j y hy => by
    have hj : j < 8 := by
      have := (List.getElem?_eq_some_iff.mp hy).1
      rw [nW] at this; simpa using this
    obtain ⟨v, hv, a, x, sg, t, u, t', rfl, e2, rfl⟩ := hW j y hy
    rw [vals j hj] at hv
    cases hv
    have hq : ∀ j, j < 8 → (([7, 4, 1, 6, 3, 0, 5, 2] : List Nat).getD j 0) < 8 := by decide
    have ho : ∀ j, j < 8 → ordL.getD (([7, 4, 1, 6, 3, 0, 5, 2] : List Nat).getD j 0) 0 = j := by decide
    have g := (hp1 _ (hq j hj)).2.1
    rw [ho j hj] at g
    rw [e2] at g
    cases g
    refine ⟨t', congrArg (Value.str · t') ?_⟩
    have hr := row_at (sgK km sm) (Int.natCast_nonneg j) (by omega : (j : Int) < 8)
    rw [Int.toNat_natCast] at hr
    rw [signS_code, hr]; rfl
  clear hW Sr vals lt1 F1 N1 hp1 hp2
  (repeat' (first | (walk_at "mine stops"; (fail_if_success (with_reducible (first | (show wpAny _ _ (call (Value.builtin "sorted") _) _ _ _) | (show wpAny _ _ (compareOp _ (Value.ref _) (Value.ref _)) _ _ _) | (show wpAny _ _ (subscriptTail (Expr.Name (Str.ofString "hues") _) _ _ _) _ _ _) | (show wpAny _ _ (subscriptTail (Expr.Name (Str.ofString "row") _) _ _ _) _ _ _) | (show wpAny _ _ (binaryOp Operator.Add (Value.ref _) (Value.ref _)) _ _ _) | (show wpAny _ _ (call (Value.builtin "str.join") _) _ _ _) | (show wpAny _ _ (execs [_, _, _] _) _ _ _)))); walk_at "mine step")))
  rename_i t4 h4 F4 N4
  replace N4 : News h₀ L h4 ((aW, listOf wW.toArray kW) :: (aG, listOf wG.toArray kG) :: (aO, listOf wO.toArray kO) :: (aC, listOf wC.toArray kC) :: (aH, listOf wH.toArray kH) :: (aK, listOf wK.toArray kK) :: (aS, listOf wS.toArray kS) :: (L + 1 + 1 + 1 + 1 + 1, o5) :: (L + 1 + 1 + 1 + 1, o4) :: (L + 1 + 1 + 1, o3) :: (L + 1 + 1, o2) :: (L + 1, o1) :: tups) := fun p hp => N4 p (drop13 hp)
  rw [show ((sm.getD (Int.toNat 0) 0).fdiv 36).fmod 8 = st from hst.symm] at F4 ⊢
  refine' call_use (dp := 320) (un := 1000) ?u1 ?u2 ?u3 ?u4 ?u5 ?v1 ?v2 ?v3 ?u6 ?u7 ?v4 ?v5 ?u8 ?_
  (case u1 => k_asm)
  (case u2 => k_asm)
  (case u3 => k_asm)
  (case u4 => k_asm)
  (case u5 => k_asm)
  (case v1 => exact rfl)
  (case v2 => exact rfl)
  (case v3 => exact rfl)
  (case v4 => exact rfl)
  (case v5 => exact rfl)
  (case u6 => exact Nat.le_of_ble_eq_true rfl)
  (case u7 => exact Nat.le_of_ble_eq_true rfl)
  (case u8 => exact fun G ret => c_pieces (ks := km) (st := st) G (News.isList N4 (.tail _ (.tail _ (.tail _ (.tail _ (.tail _ (.head _))))))) iK nK st0.1 st0.2 ret)
  rintro _ h5 tk5 _ F5 N5 - - ⟨aP, kP, inn, rfl, rfl, pin⟩
  replace N5 : News h₀ L h5 ((aP, listOf (refsOf' inn).toArray kP) :: (aW, listOf wW.toArray kW) :: (aG, listOf wG.toArray kG) :: (aO, listOf wO.toArray kO) :: (aC, listOf wC.toArray kC) :: (aH, listOf wH.toArray kH) :: (aK, listOf wK.toArray kK) :: (aS, listOf wS.toArray kS) :: (L + 1 + 1 + 1 + 1 + 1, o5) :: (L + 1 + 1 + 1 + 1, o4) :: (L + 1 + 1 + 1, o3) :: (L + 1 + 1, o2) :: (L + 1, o1) :: (inn ++ tups)) := fun p hp => N5 p (sink (lit := (aW, listOf wW.toArray kW) :: (aG, listOf wG.toArray kG) :: [(aO, listOf wO.toArray kO), (aC, listOf wC.toArray kC), (aH, listOf wH.toArray kH), (aK, listOf wK.toArray kK), (aS, listOf wS.toArray kS), (L + 1 + 1 + 1 + 1 + 1, o5), (L + 1 + 1 + 1 + 1, o4), (L + 1 + 1 + 1, o3), (L + 1 + 1, o2), (L + 1, o1)]) hp)
  clear N4 F4 ne3
  (try dsimp only)
  (repeat' (first | (walk_at "mine stops"; (fail_if_success (with_reducible (first | (show wpAny _ _ (call (Value.builtin "sorted") _) _ _ _) | (show wpAny _ _ (compareOp _ (Value.ref _) (Value.ref _)) _ _ _) | (show wpAny _ _ (subscriptTail (Expr.Name (Str.ofString "hues") _) _ _ _) _ _ _) | (show wpAny _ _ (subscriptTail (Expr.Name (Str.ofString "row") _) _ _ _) _ _ _) | (show wpAny _ _ (binaryOp Operator.Add (Value.ref _) (Value.ref _)) _ _ _) | (show wpAny _ _ (call (Value.builtin "str.join") _) _ _ _) | (show wpAny _ _ (execs [_, _, _] _) _ _ _)))); walk_at "mine step")))
  have nW8 : wW.length = 8 := by rw [nW]; rfl
  refine' kms_slice_lit ?y1 ?y2 ?y3 ?y4 ?y5 ?y6 ?_ ?y7 ?y8 ?y9
  (case y1 => k_asm)
  (case y2 => k_asm)
  (case y3 => exact News.isList (by k_asm) (by k_mem))
  (case y4 => kmk_part)
  (case y5 => kmk_part)
  (case y6 => exact pick_from nW8 st0.1 st0.2)
  (case y7 => with_unfolding_all rfl)
  (case y8 => kmk_pure)
  (case y9 => (rw [sizeLine_eq]; simp; omega))
  intro D' h' F' N' l1
  (try k_lt l1)
  (try k_sweep)
  (try dsimp only)
  (repeat' (first | (walk_at "mine stops"; (fail_if_success (with_reducible (first | (show wpAny _ _ (call (Value.builtin "sorted") _) _ _ _) | (show wpAny _ _ (compareOp _ (Value.ref _) (Value.ref _)) _ _ _) | (show wpAny _ _ (subscriptTail (Expr.Name (Str.ofString "hues") _) _ _ _) _ _ _) | (show wpAny _ _ (subscriptTail (Expr.Name (Str.ofString "row") _) _ _ _) _ _ _) | (show wpAny _ _ (binaryOp Operator.Add (Value.ref _) (Value.ref _)) _ _ _) | (show wpAny _ _ (call (Value.builtin "str.join") _) _ _ _) | (show wpAny _ _ (execs [_, _, _] _) _ _ _)))); walk_at "mine step")))
  refine' kms_slice_lit ?y1 ?y2 ?y3 ?y4 ?y5 ?y6 ?_ ?y7 ?y8 ?y9
  (case y1 => k_asm)
  (case y2 => k_asm)
  (case y3 => exact News.isList (by k_asm) (by k_mem))
  (case y4 => kmk_part)
  (case y5 => kmk_part)
  (case y6 => exact pick_to nW8 st0.1 st0.2)
  (case y7 => with_unfolding_all rfl)
  (case y8 => kmk_pure)
  (case y9 => (rw [sizeLine_eq]; simp; omega))
  intro D' h' F' N' l1
  (try k_lt l1)
  (try k_sweep)
  (try dsimp only)
  (repeat' (first | (walk_at "mine stops"; (fail_if_success (with_reducible (first | (show wpAny _ _ (call (Value.builtin "sorted") _) _ _ _) | (show wpAny _ _ (compareOp _ (Value.ref _) (Value.ref _)) _ _ _) | (show wpAny _ _ (subscriptTail (Expr.Name (Str.ofString "hues") _) _ _ _) _ _ _) | (show wpAny _ _ (subscriptTail (Expr.Name (Str.ofString "row") _) _ _ _) _ _ _) | (show wpAny _ _ (binaryOp Operator.Add (Value.ref _) (Value.ref _)) _ _ _) | (show wpAny _ _ (call (Value.builtin "str.join") _) _ _ _) | (show wpAny _ _ (execs [_, _, _] _) _ _ _)))); walk_at "mine step")))
  refine' add_arrays ?y1 ?y2 ?y3 ?y4 ?_ ?y9
  (case y1 => k_asm)
  (case y2 => k_asm)
  (case y3 => exact News.isList (by k_asm) (by k_mem))
  (case y4 => exact News.isList (by k_asm) (by k_mem))
  (case y9 => (rw [sizeLine_eq]; simp; omega))
  intro h' F' N'
  (try k_sweep)
  (try dsimp only)
  (repeat' (first | (walk_at "mine stops"; (fail_if_success (with_reducible (first | (show wpAny _ _ (call (Value.builtin "sorted") _) _ _ _) | (show wpAny _ _ (compareOp _ (Value.ref _) (Value.ref _)) _ _ _) | (show wpAny _ _ (subscriptTail (Expr.Name (Str.ofString "hues") _) _ _ _) _ _ _) | (show wpAny _ _ (subscriptTail (Expr.Name (Str.ofString "row") _) _ _ _) _ _ _) | (show wpAny _ _ (binaryOp Operator.Add (Value.ref _) (Value.ref _)) _ _ _) | (show wpAny _ _ (call (Value.builtin "str.join") _) _ _ _) | (show wpAny _ _ (execs [_, _, _] _) _ _ _)))); walk_at "mine step")))
  obtain ⟨jA, jB, jC⟩ := rot_join (f := sgK km sm) nW8 hR st0.1 st0.2
  rw [S_empty]
  refine join_list (News.isList N' (.head _)) jA jC ?_
  intro t9 k9
  rw [jB]
  replace N' : News h₀ L h' ((aP, listOf (refsOf' inn).toArray kP) :: (aW, listOf wW.toArray kW) :: (aG, listOf wG.toArray kG) :: (aO, listOf wO.toArray kO) :: (aC, listOf wC.toArray kC) :: (aH, listOf wH.toArray kH) :: (aK, listOf wK.toArray kK) :: (aS, listOf wS.toArray kS) :: (L + 1 + 1 + 1 + 1 + 1, o5) :: (L + 1 + 1 + 1 + 1, o4) :: (L + 1 + 1 + 1, o3) :: (L + 1 + 1, o2) :: (L + 1, o1) :: (inn ++ tups)) := fun p hp => N' p (.tail _ (.tail _ (.tail _ (hp))))
  have hsp := read_split okK (f := sgK km sm) (sgK_gate okK) st0.1 st0.2
  have hpl := pieces_le okK st0.1 st0.2
  have hwp := words_pieces (km := km) st0.1 (sgK km sm)
  have hgl := read_glue okK (f := sgK km sm) (sgK_gate okK) st0.1 st0.2
  have hxl : (S ((rotR st).map (sgK km sm))).length ≤ 100 := by rw [S_len, List.length_map]; exact Nat.le_of_ble_eq_true rfl
  (try k_unmd)
  (try k_unfold)
  (try dsimp only)
  (repeat' (first | (walk_at "mine stops"; (fail_if_success (with_reducible (first | (show wpAny _ _ (call (Value.builtin "sorted") _) _ _ _) | (show wpAny _ _ (compareOp _ (Value.ref _) (Value.ref _)) _ _ _) | (show wpAny _ _ (subscriptTail (Expr.Name (Str.ofString "hues") _) _ _ _) _ _ _) | (show wpAny _ _ (subscriptTail (Expr.Name (Str.ofString "row") _) _ _ _) _ _ _) | (show wpAny _ _ (binaryOp Operator.Add (Value.ref _) (Value.ref _)) _ _ _) | (show wpAny _ _ (call (Value.builtin "str.join") _) _ _ _) | (show wpAny _ _ (execs [_, _, _] _) _ _ _)))); walk_at "mine step")))
  by_cases hp3 : (piecesOf km st).length = 3
  · obtain ⟨q0, q1, q2, hq⟩ := three_of hp3
    rw [hq] at hsp
    refine' call_use (dp := 320) (un := 1000) ?u1 ?u2 ?u3 ?u4 ?u5 ?v1 ?v2 ?v3 ?u6 ?u7 ?v4 ?v5 ?u8 ?_
    (case u1 => k_asm)
    (case u2 => k_asm)
    (case u3 => k_asm)
    (case u4 => k_asm)
    (case u5 => k_asm)
    (case v1 => exact rfl)
    (case v2 => exact rfl)
    (case v3 => exact rfl)
    (case v4 => exact rfl)
    (case v5 => exact rfl)
    (case u6 => exact Nat.le_of_ble_eq_true rfl)
    (case u7 => exact Nat.le_of_ble_eq_true rfl)
    (case u8 => exact fun G ret => c_dec3 G hxl hsp ret)
    rintro _ h7 tk7 _ F7 N7 - - ⟨aD, nD, w1, w2, w3, rfl, rfl⟩
    dsimp only [List.cons_append, List.nil_append] at N7
    (try dsimp only)
    (repeat' (first | (walk_at "mine stops"; (fail_if_success (with_reducible (first | (show wpAny _ _ (call (Value.builtin "sorted") _) _ _ _) | (show wpAny _ _ (compareOp _ (Value.ref _) (Value.ref _)) _ _ _) | (show wpAny _ _ (subscriptTail (Expr.Name (Str.ofString "hues") _) _ _ _) _ _ _) | (show wpAny _ _ (subscriptTail (Expr.Name (Str.ofString "row") _) _ _ _) _ _ _) | (show wpAny _ _ (binaryOp Operator.Add (Value.ref _) (Value.ref _)) _ _ _) | (show wpAny _ _ (call (Value.builtin "str.join") _) _ _ _) | (show wpAny _ _ (execs [_, _, _] _) _ _ _)))); walk_at "mine step")))
    rename_i h8 F8 N8
    have X8 := X'.keeps F8.keep
    have T8 := T'.keeps F8.keep
    have hH8 : h8.IsList aH wH.toArray := News.isList N8 (.tail _ (.tail _ (.tail _ (.tail _ (.tail _ (.tail _ (.head _)))))))
    have hK8 : h8.IsList aK wK.toArray := News.isList N8 (.tail _ (.tail _ (.tail _ (.tail _ (.tail _ (.tail _ (.tail _ (.head _))))))))
    have hCH8 : h8.IsCell (L + 1 + 1 + 1) (some (.ref aH)) := ⟨_, (N8 (L + 1 + 1 + 1, o3) (.tail _ (.tail _ (.tail _ (.tail _ (.tail _ (.tail _ (.tail _ (.tail _ (.tail _ (.tail _ (.tail _ (.head _))))))))))))).1, d3⟩
    have hCK8 : h8.IsCell (L + 1 + 1) (some (.ref aK)) := ⟨_, (N8 (L + 1 + 1, o2) (.tail _ (.tail _ (.tail _ (.tail _ (.tail _ (.tail _ (.tail _ (.tail _ (.tail _ (.tail _ (.tail _ (.tail _ (.head _)))))))))))))).1, d2⟩
    (try k_unmd)
    (try k_fold)
    refine wpAny_ListComp_free (cl := [(Str.ofString "kinds", L + 1 + 1), (Str.ofString "hues", L + 1 + 1 + 1)]) (fun _ => true) (fun v y => ∃ k : Nat, ∃ t t', v = .int (k : Int) t ∧ y = .str (S [(rowL (sgK km sm)).getD k 0]) t') ?c1 ?c2 ?c3 ?c4 ?c5 ?_ ?c6
    (case c1 => with_unfolding_all rfl)
    (case c2 => decide)
    (case c3 => with_unfolding_all rfl)
    (case c4 => decide)
    (case c5 => with_unfolding_all rfl)
    (case c6 => intro _; with_unfolding_all rfl)
    (repeat' (first | (walk_at "mine stops"; (fail_if_success (with_reducible (first | (show wpAny _ _ (call (Value.builtin "sorted") _) _ _ _) | (show wpAny _ _ (compareOp _ (Value.ref _) (Value.ref _)) _ _ _) | (show wpAny _ _ (subscriptTail (Expr.Name (Str.ofString "hues") _) _ _ _) _ _ _) | (show wpAny _ _ (subscriptTail (Expr.Name (Str.ofString "row") _) _ _ _) _ _ _) | (show wpAny _ _ (binaryOp Operator.Add (Value.ref _) (Value.ref _)) _ _ _) | (show wpAny _ _ (call (Value.builtin "str.join") _) _ _ _) | (show wpAny _ _ (execs [_, _, _] _) _ _ _)))); walk_at "mine step")))
    rename_i h9 tk9 t9 u9 v9 hr9 F9 N9 kp9
    have hH9 : h9.IsList aH wH.toArray := stays_list kp9 hH8
    have hK9 : h9.IsList aK wK.toArray := stays_list kp9 hK8
    have hCH9 : h9.IsCell (L + 1 + 1 + 1) (some (.ref aH)) := hCH8.keeps kp9
    have hCK9 : h9.IsCell (L + 1 + 1) (some (.ref aK)) := hCK8.keeps kp9
    have X9 := X'.keeps F9.keep
    have T9 := T'.keeps F9.keep
    refine src_range (n := 8) rfl hr9 (by decide) ?_
    rintro it _ ⟨h₆, rfl⟩ Sr
    refine comp_evalT Sr ?_ ?_
    · rintro C i _ s₃ m₃ E' ⟨hi8, ti, rfl⟩ Fc hm
      have F10 := F9.grownK Fc.keep
      have N10 := N9.grown Fc.keep
      have hH10 : s₃.heap.IsList aH wH.toArray := stays_list Fc.keep hH9
      have hpl := plJ_bd (sm := sm) hi8
      have hkb := km_bd okK hi8
      obtain ⟨tH, hxH⟩ : ∃ tH, wH[i]? = some (.float (hueJ (plJ sm i)) tH) := by
        have hlt : i < wH.length := by omega
        obtain ⟨tH, h, hp⟩ := fH i wH[i] (by simp [hlt])
        exact ⟨tH, by simp [hlt, h]⟩
      (repeat' (first | (walk_at "mine stops"; (fail_if_success (with_reducible (first | (show wpAny _ _ (call (Value.builtin "sorted") _) _ _ _) | (show wpAny _ _ (compareOp _ (Value.ref _) (Value.ref _)) _ _ _) | (show wpAny _ _ (subscriptTail (Expr.Name (Str.ofString "hues") _) _ _ _) _ _ _) | (show wpAny _ _ (subscriptTail (Expr.Name (Str.ofString "row") _) _ _ _) _ _ _) | (show wpAny _ _ (binaryOp Operator.Add (Value.ref _) (Value.ref _)) _ _ _) | (show wpAny _ _ (call (Value.builtin "str.join") _) _ _ _) | (show wpAny _ _ (execs [_, _, _] _) _ _ _)))); walk_at "mine step")))
      refine' item_fl ?z1 ?z2 ?z3 ?_ ?z4 ?z5
      (case z1 => exact hH10)
      (case z2 => exact hxH)
      (case z3 => exact hi8)
      (case z4 => with_unfolding_all rfl)
      (case z5 => intro _; with_unfolding_all rfl)
      (try dsimp only)
      (repeat' (first | (walk_at "mine stops"; (fail_if_success (with_reducible (first | (show wpAny _ _ (call (Value.builtin "sorted") _) _ _ _) | (show wpAny _ _ (compareOp _ (Value.ref _) (Value.ref _)) _ _ _) | (show wpAny _ _ (subscriptTail (Expr.Name (Str.ofString "hues") _) _ _ _) _ _ _) | (show wpAny _ _ (subscriptTail (Expr.Name (Str.ofString "row") _) _ _ _) _ _ _) | (show wpAny _ _ (binaryOp Operator.Add (Value.ref _) (Value.ref _)) _ _ _) | (show wpAny _ _ (call (Value.builtin "str.join") _) _ _ _) | (show wpAny _ _ (execs [_, _, _] _) _ _ _)))); walk_at "mine step")))
      refine' call_use (dp := 400) (un := 2000) ?u1 ?u2 ?u3 ?u4 ?u5 ?v1 ?v2 ?v3 ?u6 ?u7 ?v4 ?v5 ?u8 ?_
      (case u1 => k_asm)
      (case u2 => k_asm)
      (case u3 => k_asm)
      (case u4 => k_asm)
      (case u5 => k_asm)
      (case v1 => exact rfl)
      (case v2 => exact rfl)
      (case v3 => exact rfl)
      (case v4 => exact rfl)
      (case v5 => exact rfl)
      (case u6 => exact Nat.le_of_ble_eq_true rfl)
      (case u7 => exact Nat.le_of_ble_eq_true rfl)
      (case u8 => exact fun G ret => c_sign G (hue_place hpl.1 hpl.2) hpl.1 hpl.2 hkb.1 hkb.2 ret)
      rintro _ h11 tk11 _ F11 N11 - st11 ⟨t11, rfl, rfl⟩
      (try k_unmd)
      (try k_unfold)
      (try dsimp only)
      exact CEnd.mk st11 ⟨i, _, _, rfl, congrArg (Value.str · _) (sign_rowK hi8)⟩
    intro aE kE ys h12 tk12 nE hE st12 nw12
    have hSg := row_strs hE
    obtain ⟨F12, N12, ne12⟩ := news_new F9 N9 st12 nw12
    dsimp only [List.cons_append, List.nil_append] at N12
    clear hE nw12 st12 Sr F9 N9 ne12
    (try dsimp only)
    (repeat' (first | (walk_at "mine stops"; (fail_if_success (with_reducible (first | (show wpAny _ _ (call (Value.builtin "sorted") _) _ _ _) | (show wpAny _ _ (compareOp _ (Value.ref _) (Value.ref _)) _ _ _) | (show wpAny _ _ (subscriptTail (Expr.Name (Str.ofString "hues") _) _ _ _) _ _ _) | (show wpAny _ _ (subscriptTail (Expr.Name (Str.ofString "row") _) _ _ _) _ _ _) | (show wpAny _ _ (binaryOp Operator.Add (Value.ref _) (Value.ref _)) _ _ _) | (show wpAny _ _ (call (Value.builtin "str.join") _) _ _ _) | (show wpAny _ _ (execs [_, _, _] _) _ _ _)))); walk_at "mine step")))
    have hin : ∀ p ∈ inn, h12.get? p.1 = some p.2 := fun p hp => (N12 p (.tail _ (.tail _ (.tail _ (.tail _ (.tail _ (.tail _ (.tail _ (.tail _ (.tail _ (.tail _ (.tail _ (.tail _ (.tail _ (.tail _ (.tail _ (List.mem_append_left _ hp))))))))))))))))).1
    refine' call_use (dp := 320) (un := 1000) ?u1 ?u2 ?u3 ?u4 ?u5 ?v1 ?v2 ?v3 ?u6 ?u7 ?v4 ?v5 ?u8 ?_
    (case u1 => k_asm)
    (case u2 => k_asm)
    (case u3 => k_asm)
    (case u4 => k_asm)
    (case u5 => k_asm)
    (case v1 => exact rfl)
    (case v2 => exact rfl)
    (case v3 => exact rfl)
    (case v4 => exact rfl)
    (case v5 => exact rfl)
    (case u6 => exact Nat.le_of_ble_eq_true rfl)
    (case u7 => exact Nat.le_of_ble_eq_true rfl)
    (case u8 => exact fun G ret => c_due (sg := rowL (sgK km sm)) (pcs := piecesOf km st) G (News.isList N12 (.head _)) nE hSg (News.isList N12 (.tail _ (.tail _ (.head _)))) hin pin (by omega) (pieces_mem st0.1) ret)
    rintro v13 h13 tk13 new13 F13 N13 - - ⟨p3, -⟩
    obtain ⟨aF, nF, yF, rfl, rfl, sF⟩ := p3 hp3
    dsimp only [List.cons_append, List.nil_append] at N13
    rw [hwp, hq] at sF
    (try dsimp only)
    refine ne_strs (ss := [S (q0.map (sgK km sm)), S (q1.map (sgK km sm)), S (q2.map (sgK km sm))]) (vs := [.str (S (q0.map (sgK km sm))) w1, .str (S (q1.map (sgK km sm))) w2, .str (S (q2.map (sgK km sm))) w3]) (News.isList N13 (.tail _ (.tail _ (.head _)))) (News.isList N13 (.head _)) (.cons _ _ (.cons _ _ (.cons _ _ .nil))) sF ?hu ?_
    (case hu => exact Nat.lt_of_le_of_lt (Nat.le_of_ble_eq_true rfl) room_1000)
    (try dsimp only)
    (repeat' (first | (walk_at "mine stops"; (fail_if_success (with_reducible (first | (show wpAny _ _ (call (Value.builtin "sorted") _) _ _ _) | (show wpAny _ _ (compareOp _ (Value.ref _) (Value.ref _)) _ _ _) | (show wpAny _ _ (subscriptTail (Expr.Name (Str.ofString "hues") _) _ _ _) _ _ _) | (show wpAny _ _ (subscriptTail (Expr.Name (Str.ofString "row") _) _ _ _) _ _ _) | (show wpAny _ _ (binaryOp Operator.Add (Value.ref _) (Value.ref _)) _ _ _) | (show wpAny _ _ (call (Value.builtin "str.join") _) _ _ _) | (show wpAny _ _ (execs [_, _, _] _) _ _ _)))); walk_at "mine step")))
    have hl0 : q0.length ≤ 8 ∧ q2.length ≤ 8 := ⟨(pieces_mem (ks := km) st0.1 q0 (by rw [hq]; exact .head _)).1, (pieces_mem (ks := km) st0.1 q2 (by rw [hq]; exact .tail _ (.tail _ (.head _)))).1⟩
    refine' call_use (dp := 320) (un := 1000) ?u1 ?u2 ?u3 ?u4 ?u5 ?v1 ?v2 ?v3 ?u6 ?u7 ?v4 ?v5 ?u8 ?_
    (case u1 => k_asm)
    (case u2 => k_asm)
    (case u3 => k_asm)
    (case u4 => k_asm)
    (case u5 => k_asm)
    (case v1 => exact rfl)
    (case v2 => exact rfl)
    (case v3 => exact rfl)
    (case v4 => exact rfl)
    (case v5 => exact rfl)
    (case u6 => exact Nat.le_of_ble_eq_true rfl)
    (case u7 => exact Nat.le_of_ble_eq_true rfl)
    (case u8 => exact fun G ret => c_shown_l (x := S (q0.map (sgK km sm))) (y := S (q1.map (sgK km sm))) (z := S (q2.map (sgK km sm))) (t1 := w1) (t2 := w2) (t3 := w3) G (News.isList N13 (.tail _ (.tail _ (.head _)))) (by rw [S_len, List.length_map]; omega) (by rw [S_len, List.length_map]; omega) ret)
    rintro _ h14 tk14 _ F14 N14 - - ⟨tF, rfl, rfl⟩
    dsimp only [List.nil_append] at N14
    rw [S_app, ← List.map_append, ← stood_three hq]
    (try dsimp only)
    (repeat' (first | (walk_at "mine stops"; (fail_if_success (with_reducible (first | (show wpAny _ _ (call (Value.builtin "sorted") _) _ _ _) | (show wpAny _ _ (compareOp _ (Value.ref _) (Value.ref _)) _ _ _) | (show wpAny _ _ (subscriptTail (Expr.Name (Str.ofString "hues") _) _ _ _) _ _ _) | (show wpAny _ _ (subscriptTail (Expr.Name (Str.ofString "row") _) _ _ _) _ _ _) | (show wpAny _ _ (binaryOp Operator.Add (Value.ref _) (Value.ref _)) _ _ _) | (show wpAny _ _ (call (Value.builtin "str.join") _) _ _ _) | (show wpAny _ _ (execs [_, _, _] _) _ _ _)))); walk_at "mine step")))
    rename_i h16 F16 N16
    have hin2 : ∀ p ∈ inn, h16.get? p.1 = some p.2 := fun p hp => (N16 p (.tail _ (.tail _ (.tail _ (.tail _ (.tail _ (.tail _ (.tail _ (.tail _ (.tail _ (.tail _ (.tail _ (.tail _ (.tail _ (.tail _ (.tail _ (.tail _ (List.mem_append_left _ hp)))))))))))))))))).1
    refine' call_use (dp := 320) (un := 1000) ?u1 ?u2 ?u3 ?u4 ?u5 ?v1 ?v2 ?v3 ?u6 ?u7 ?v4 ?v5 ?u8 ?_
    (case u1 => k_asm)
    (case u2 => k_asm)
    (case u3 => k_asm)
    (case u4 => k_asm)
    (case u5 => k_asm)
    (case v1 => exact rfl)
    (case v2 => exact rfl)
    (case v3 => exact rfl)
    (case v4 => exact rfl)
    (case v5 => exact rfl)
    (case u6 => exact Nat.le_of_ble_eq_true rfl)
    (case u7 => exact Nat.le_of_ble_eq_true rfl)
    (case u8 => exact fun G ret => c_stood3 (inn := inn) (q0 := q0) (q1 := q1) (q2 := q2) G (News.isList N16 (.tail _ (.tail _ (.tail _ (.head _))))) hin2 (hq ▸ pin) hl0.1 hl0.2 ret)
    rintro _ h15 tk15 _ F15 N15 - - ⟨aZ, nZ, wZ, rfl, rfl, iZ⟩
    rw [← stood_three hq] at iZ
    dsimp only [List.cons_append, List.nil_append] at N15
    (try dsimp only)
    (repeat' (first | (walk_at "mine stops"; (fail_if_success (with_reducible (first | (show wpAny _ _ (call (Value.builtin "sorted") _) _ _ _) | (show wpAny _ _ (compareOp _ (Value.ref _) (Value.ref _)) _ _ _) | (show wpAny _ _ (subscriptTail (Expr.Name (Str.ofString "hues") _) _ _ _) _ _ _) | (show wpAny _ _ (subscriptTail (Expr.Name (Str.ofString "row") _) _ _ _) _ _ _) | (show wpAny _ _ (binaryOp Operator.Add (Value.ref _) (Value.ref _)) _ _ _) | (show wpAny _ _ (call (Value.builtin "str.join") _) _ _ _) | (show wpAny _ _ (execs [_, _, _] _) _ _ _)))); walk_at "mine step")))
    rename_i h17 F17 N17
    refine cont h17 _ _ aZ nZ wZ tF F17 rfl rfl hagain iZ fun p hp => N17 p ?_
    · revert hp
      intro hp
      rcases List.mem_cons.mp hp with rfl | hp
      · exact .head _
      rcases List.mem_cons.mp hp with rfl | hp
      · exact .tail _ (.tail _ (.tail _ (.tail _ (.tail _ (.tail _ (.head _))))))
      rcases List.mem_cons.mp hp with rfl | hp
      · exact .tail _ (.tail _ (.tail _ (.tail _ (.tail _ (.tail _ (.tail _ (.head _)))))))
      rcases List.mem_cons.mp hp with rfl | hp
      · exact .tail _ (.tail _ (.tail _ (.tail _ (.tail _ (.tail _ (.tail _ (.tail _ (.head _))))))))
      rcases List.mem_cons.mp hp with rfl | hp
      · exact .tail _ (.tail _ (.tail _ (.tail _ (.tail _ (.tail _ (.tail _ (.tail _ (.tail _ (.head _)))))))))
      rcases List.mem_cons.mp hp with rfl | hp
      · exact .tail _ (.tail _ (.tail _ (.tail _ (.tail _ (.tail _ (.tail _ (.tail _ (.tail _ (.tail _ (.head _))))))))))
      rcases List.mem_cons.mp hp with rfl | hp
      · exact .tail _ (.tail _ (.tail _ (.tail _ (.tail _ (.tail _ (.tail _ (.tail _ (.tail _ (.tail _ (.tail _ (.head _)))))))))))
      rcases List.mem_cons.mp hp with rfl | hp
      · exact .tail _ (.tail _ (.tail _ (.tail _ (.tail _ (.tail _ (.tail _ (.tail _ (.tail _ (.tail _ (.tail _ (.tail _ (.head _))))))))))))
      rcases List.mem_cons.mp hp with rfl | hp
      · exact .tail _ (.tail _ (.tail _ (.tail _ (.tail _ (.tail _ (.tail _ (.tail _ (.tail _ (.tail _ (.tail _ (.tail _ (.tail _ (.head _)))))))))))))
      rcases List.mem_cons.mp hp with rfl | hp
      · exact .tail _ (.tail _ (.tail _ (.tail _ (.tail _ (.tail _ (.tail _ (.tail _ (.tail _ (.tail _ (.tail _ (.tail _ (.tail _ (.tail _ (.head _))))))))))))))
      rcases List.mem_cons.mp hp with rfl | hp
      · exact .tail _ (.tail _ (.tail _ (.tail _ (.tail _ (.tail _ (.tail _ (.tail _ (.tail _ (.tail _ (.tail _ (.tail _ (.tail _ (.tail _ (.tail _ (.head _)))))))))))))))
      rcases List.mem_cons.mp hp with rfl | hp
      · exact .tail _ (.tail _ (.tail _ (.tail _ (.tail _ (.tail _ (.tail _ (.tail _ (.tail _ (.tail _ (.tail _ (.tail _ (.tail _ (.tail _ (.tail _ (.tail _ (.head _))))))))))))))))
      exact .tail _ (.tail _ (.tail _ (.tail _ (.tail _ (.tail _ (.tail _ (.tail _ (.tail _ (.tail _ (.tail _ (.tail _ (.tail _ (.tail _ (.tail _ (.tail _ (.tail _ (List.mem_append_right _ hp)))))))))))))))))
  · have hp2 : (Txt.splitMax (S ((rotR st).map (sgK km sm))) (Str.ofString "'") 2).length ≤ 2 := by rw [hsp, List.length_map]; omega
    have hil : (refsOf' inn).length = (piecesOf km st).length := by rw [List.length_map]; exact (paired_at pin).1.symm
    refine' call_use (dp := 320) (un := 1000) ?u1 ?u2 ?u3 ?u4 ?u5 ?v1 ?v2 ?v3 ?u6 ?u7 ?v4 ?v5 ?u8 ?_
    (case u1 => k_asm)
    (case u2 => k_asm)
    (case u3 => k_asm)
    (case u4 => k_asm)
    (case u5 => k_asm)
    (case v1 => exact rfl)
    (case v2 => exact rfl)
    (case v3 => exact rfl)
    (case v4 => exact rfl)
    (case v5 => exact rfl)
    (case u6 => exact Nat.le_of_ble_eq_true rfl)
    (case u7 => exact Nat.le_of_ble_eq_true rfl)
    (case u8 => exact fun G ret => c_dec1 G hxl hp2 ret)
    rintro _ h7 tk7 _ F7 N7 - - ⟨aD, w1, rfl, rfl⟩
    dsimp only [List.cons_append, List.nil_append] at N7
    (try dsimp only)
    (repeat' (first | (walk_at "mine stops"; (fail_if_success (with_reducible (first | (show wpAny _ _ (call (Value.builtin "sorted") _) _ _ _) | (show wpAny _ _ (compareOp _ (Value.ref _) (Value.ref _)) _ _ _) | (show wpAny _ _ (subscriptTail (Expr.Name (Str.ofString "hues") _) _ _ _) _ _ _) | (show wpAny _ _ (subscriptTail (Expr.Name (Str.ofString "row") _) _ _ _) _ _ _) | (show wpAny _ _ (binaryOp Operator.Add (Value.ref _) (Value.ref _)) _ _ _) | (show wpAny _ _ (call (Value.builtin "str.join") _) _ _ _) | (show wpAny _ _ (execs [_, _, _] _) _ _ _)))); walk_at "mine step")))
    rename_i h8 F8 N8
    have X8 := X'.keeps F8.keep
    have T8 := T'.keeps F8.keep
    have hH8 : h8.IsList aH wH.toArray := News.isList N8 (.tail _ (.tail _ (.tail _ (.tail _ (.tail _ (.tail _ (.head _)))))))
    have hK8 : h8.IsList aK wK.toArray := News.isList N8 (.tail _ (.tail _ (.tail _ (.tail _ (.tail _ (.tail _ (.tail _ (.head _))))))))
    have hCH8 : h8.IsCell (L + 1 + 1 + 1) (some (.ref aH)) := ⟨_, (N8 (L + 1 + 1 + 1, o3) (.tail _ (.tail _ (.tail _ (.tail _ (.tail _ (.tail _ (.tail _ (.tail _ (.tail _ (.tail _ (.tail _ (.head _))))))))))))).1, d3⟩
    have hCK8 : h8.IsCell (L + 1 + 1) (some (.ref aK)) := ⟨_, (N8 (L + 1 + 1, o2) (.tail _ (.tail _ (.tail _ (.tail _ (.tail _ (.tail _ (.tail _ (.tail _ (.tail _ (.tail _ (.tail _ (.tail _ (.head _)))))))))))))).1, d2⟩
    (try k_unmd)
    (try k_fold)
    refine wpAny_ListComp_free (cl := [(Str.ofString "kinds", L + 1 + 1), (Str.ofString "hues", L + 1 + 1 + 1)]) (fun _ => true) (fun v y => ∃ k : Nat, ∃ t t', v = .int (k : Int) t ∧ y = .str (S [(rowL (sgK km sm)).getD k 0]) t') ?c1 ?c2 ?c3 ?c4 ?c5 ?_ ?c6
    (case c1 => with_unfolding_all rfl)
    (case c2 => decide)
    (case c3 => with_unfolding_all rfl)
    (case c4 => decide)
    (case c5 => with_unfolding_all rfl)
    (case c6 => intro _; with_unfolding_all rfl)
    (repeat' (first | (walk_at "mine stops"; (fail_if_success (with_reducible (first | (show wpAny _ _ (call (Value.builtin "sorted") _) _ _ _) | (show wpAny _ _ (compareOp _ (Value.ref _) (Value.ref _)) _ _ _) | (show wpAny _ _ (subscriptTail (Expr.Name (Str.ofString "hues") _) _ _ _) _ _ _) | (show wpAny _ _ (subscriptTail (Expr.Name (Str.ofString "row") _) _ _ _) _ _ _) | (show wpAny _ _ (binaryOp Operator.Add (Value.ref _) (Value.ref _)) _ _ _) | (show wpAny _ _ (call (Value.builtin "str.join") _) _ _ _) | (show wpAny _ _ (execs [_, _, _] _) _ _ _)))); walk_at "mine step")))
    rename_i h9 tk9 t9 u9 v9 hr9 F9 N9 kp9
    have hH9 : h9.IsList aH wH.toArray := stays_list kp9 hH8
    have hK9 : h9.IsList aK wK.toArray := stays_list kp9 hK8
    have hCH9 : h9.IsCell (L + 1 + 1 + 1) (some (.ref aH)) := hCH8.keeps kp9
    have hCK9 : h9.IsCell (L + 1 + 1) (some (.ref aK)) := hCK8.keeps kp9
    have X9 := X'.keeps F9.keep
    have T9 := T'.keeps F9.keep
    refine src_range (n := 8) rfl hr9 (by decide) ?_
    rintro it _ ⟨h₆, rfl⟩ Sr
    refine comp_evalT Sr ?_ ?_
    · rintro C i _ s₃ m₃ E' ⟨hi8, ti, rfl⟩ Fc hm
      have F10 := F9.grownK Fc.keep
      have N10 := N9.grown Fc.keep
      have hH10 : s₃.heap.IsList aH wH.toArray := stays_list Fc.keep hH9
      have hpl := plJ_bd (sm := sm) hi8
      have hkb := km_bd okK hi8
      obtain ⟨tH, hxH⟩ : ∃ tH, wH[i]? = some (.float (hueJ (plJ sm i)) tH) := by
        have hlt : i < wH.length := by omega
        obtain ⟨tH, h, hp⟩ := fH i wH[i] (by simp [hlt])
        exact ⟨tH, by simp [hlt, h]⟩
      (repeat' (first | (walk_at "mine stops"; (fail_if_success (with_reducible (first | (show wpAny _ _ (call (Value.builtin "sorted") _) _ _ _) | (show wpAny _ _ (compareOp _ (Value.ref _) (Value.ref _)) _ _ _) | (show wpAny _ _ (subscriptTail (Expr.Name (Str.ofString "hues") _) _ _ _) _ _ _) | (show wpAny _ _ (subscriptTail (Expr.Name (Str.ofString "row") _) _ _ _) _ _ _) | (show wpAny _ _ (binaryOp Operator.Add (Value.ref _) (Value.ref _)) _ _ _) | (show wpAny _ _ (call (Value.builtin "str.join") _) _ _ _) | (show wpAny _ _ (execs [_, _, _] _) _ _ _)))); walk_at "mine step")))
      refine' item_fl ?z1 ?z2 ?z3 ?_ ?z4 ?z5
      (case z1 => exact hH10)
      (case z2 => exact hxH)
      (case z3 => exact hi8)
      (case z4 => with_unfolding_all rfl)
      (case z5 => intro _; with_unfolding_all rfl)
      (try dsimp only)
      (repeat' (first | (walk_at "mine stops"; (fail_if_success (with_reducible (first | (show wpAny _ _ (call (Value.builtin "sorted") _) _ _ _) | (show wpAny _ _ (compareOp _ (Value.ref _) (Value.ref _)) _ _ _) | (show wpAny _ _ (subscriptTail (Expr.Name (Str.ofString "hues") _) _ _ _) _ _ _) | (show wpAny _ _ (subscriptTail (Expr.Name (Str.ofString "row") _) _ _ _) _ _ _) | (show wpAny _ _ (binaryOp Operator.Add (Value.ref _) (Value.ref _)) _ _ _) | (show wpAny _ _ (call (Value.builtin "str.join") _) _ _ _) | (show wpAny _ _ (execs [_, _, _] _) _ _ _)))); walk_at "mine step")))
      refine' call_use (dp := 400) (un := 2000) ?u1 ?u2 ?u3 ?u4 ?u5 ?v1 ?v2 ?v3 ?u6 ?u7 ?v4 ?v5 ?u8 ?_
      (case u1 => k_asm)
      (case u2 => k_asm)
      (case u3 => k_asm)
      (case u4 => k_asm)
      (case u5 => k_asm)
      (case v1 => exact rfl)
      (case v2 => exact rfl)
      (case v3 => exact rfl)
      (case v4 => exact rfl)
      (case v5 => exact rfl)
      (case u6 => exact Nat.le_of_ble_eq_true rfl)
      (case u7 => exact Nat.le_of_ble_eq_true rfl)
      (case u8 => exact fun G ret => c_sign G (hue_place hpl.1 hpl.2) hpl.1 hpl.2 hkb.1 hkb.2 ret)
      rintro _ h11 tk11 _ F11 N11 - st11 ⟨t11, rfl, rfl⟩
      (try k_unmd)
      (try k_unfold)
      (try dsimp only)
      exact CEnd.mk st11 ⟨i, _, _, rfl, congrArg (Value.str · _) (sign_rowK hi8)⟩
    intro aE kE ys h12 tk12 nE hE st12 nw12
    have hSg := row_strs hE
    obtain ⟨F12, N12, ne12⟩ := news_new F9 N9 st12 nw12
    dsimp only [List.cons_append, List.nil_append] at N12
    clear hE nw12 st12 Sr F9 N9 ne12
    (try dsimp only)
    (repeat' (first | (walk_at "mine stops"; (fail_if_success (with_reducible (first | (show wpAny _ _ (call (Value.builtin "sorted") _) _ _ _) | (show wpAny _ _ (compareOp _ (Value.ref _) (Value.ref _)) _ _ _) | (show wpAny _ _ (subscriptTail (Expr.Name (Str.ofString "hues") _) _ _ _) _ _ _) | (show wpAny _ _ (subscriptTail (Expr.Name (Str.ofString "row") _) _ _ _) _ _ _) | (show wpAny _ _ (binaryOp Operator.Add (Value.ref _) (Value.ref _)) _ _ _) | (show wpAny _ _ (call (Value.builtin "str.join") _) _ _ _) | (show wpAny _ _ (execs [_, _, _] _) _ _ _)))); walk_at "mine step")))
    have hin : ∀ p ∈ inn, h12.get? p.1 = some p.2 := fun p hp => (N12 p (.tail _ (.tail _ (.tail _ (.tail _ (.tail _ (.tail _ (.tail _ (.tail _ (.tail _ (.tail _ (.tail _ (.tail _ (.tail _ (.tail _ (.tail _ (List.mem_append_left _ hp))))))))))))))))).1
    refine' call_use (dp := 320) (un := 1000) ?u1 ?u2 ?u3 ?u4 ?u5 ?v1 ?v2 ?v3 ?u6 ?u7 ?v4 ?v5 ?u8 ?_
    (case u1 => k_asm)
    (case u2 => k_asm)
    (case u3 => k_asm)
    (case u4 => k_asm)
    (case u5 => k_asm)
    (case v1 => exact rfl)
    (case v2 => exact rfl)
    (case v3 => exact rfl)
    (case v4 => exact rfl)
    (case v5 => exact rfl)
    (case u6 => exact Nat.le_of_ble_eq_true rfl)
    (case u7 => exact Nat.le_of_ble_eq_true rfl)
    (case u8 => exact fun G ret => c_due (sg := rowL (sgK km sm)) (pcs := piecesOf km st) G (News.isList N12 (.head _)) nE hSg (News.isList N12 (.tail _ (.tail _ (.head _)))) hin pin (by omega) (pieces_mem st0.1) ret)
    rintro v13 h13 tk13 new13 F13 N13 - - ⟨-, p3⟩
    obtain ⟨aF, w2, rfl, rfl⟩ := p3 hp3
    dsimp only [List.cons_append, List.nil_append] at N13
    rw [hwp, hgl] at N13
    (try dsimp only)
    refine ne_whole (N13 _ (.tail _ (.tail _ (.head _)))).1 (N13 _ (.head _)).1 ?hu ?_
    (case hu => exact Nat.lt_of_le_of_lt (Nat.le_of_ble_eq_true rfl) room_1000)
    (try dsimp only)
    (repeat' (first | (walk_at "mine stops"; (fail_if_success (with_reducible (first | (show wpAny _ _ (call (Value.builtin "sorted") _) _ _ _) | (show wpAny _ _ (compareOp _ (Value.ref _) (Value.ref _)) _ _ _) | (show wpAny _ _ (subscriptTail (Expr.Name (Str.ofString "hues") _) _ _ _) _ _ _) | (show wpAny _ _ (subscriptTail (Expr.Name (Str.ofString "row") _) _ _ _) _ _ _) | (show wpAny _ _ (binaryOp Operator.Add (Value.ref _) (Value.ref _)) _ _ _) | (show wpAny _ _ (call (Value.builtin "str.join") _) _ _ _) | (show wpAny _ _ (execs [_, _, _] _) _ _ _)))); walk_at "mine step")))
    refine' call_use (dp := 320) (un := 1000) ?u1 ?u2 ?u3 ?u4 ?u5 ?v1 ?v2 ?v3 ?u6 ?u7 ?v4 ?v5 ?u8 ?_
    (case u1 => k_asm)
    (case u2 => k_asm)
    (case u3 => k_asm)
    (case u4 => k_asm)
    (case u5 => k_asm)
    (case v1 => exact rfl)
    (case v2 => exact rfl)
    (case v3 => exact rfl)
    (case v4 => exact rfl)
    (case v5 => exact rfl)
    (case u6 => exact Nat.le_of_ble_eq_true rfl)
    (case u7 => exact Nat.le_of_ble_eq_true rfl)
    (case u8 => exact fun G ret => c_shown_t (z := S ((rotR st).map (sgK km sm))) (t3 := w1) G ⟨_, (N13 _ (.tail _ (.tail _ (.head _)))).1, rfl, 0, rfl⟩ ret)
    rintro _ h14 tk14 _ F14 N14 - - ⟨tF, rfl, rfl⟩
    dsimp only [List.nil_append] at N14
    rw [← stood_other hp3]
    (try dsimp only)
    (repeat' (first | (walk_at "mine stops"; (fail_if_success (with_reducible (first | (show wpAny _ _ (call (Value.builtin "sorted") _) _ _ _) | (show wpAny _ _ (compareOp _ (Value.ref _) (Value.ref _)) _ _ _) | (show wpAny _ _ (subscriptTail (Expr.Name (Str.ofString "hues") _) _ _ _) _ _ _) | (show wpAny _ _ (subscriptTail (Expr.Name (Str.ofString "row") _) _ _ _) _ _ _) | (show wpAny _ _ (binaryOp Operator.Add (Value.ref _) (Value.ref _)) _ _ _) | (show wpAny _ _ (call (Value.builtin "str.join") _) _ _ _) | (show wpAny _ _ (execs [_, _, _] _) _ _ _)))); walk_at "mine step")))
    rename_i h16 F16 N16
    have hin2 : ∀ p ∈ inn, h16.get? p.1 = some p.2 := fun p hp => (N16 p (.tail _ (.tail _ (.tail _ (.tail _ (.tail _ (.tail _ (.tail _ (.tail _ (.tail _ (.tail _ (.tail _ (.tail _ (.tail _ (.tail _ (.tail _ (.tail _ (List.mem_append_left _ hp)))))))))))))))))).1
    refine' call_use (dp := 320) (un := 1000) ?u1 ?u2 ?u3 ?u4 ?u5 ?v1 ?v2 ?v3 ?u6 ?u7 ?v4 ?v5 ?u8 ?_
    (case u1 => k_asm)
    (case u2 => k_asm)
    (case u3 => k_asm)
    (case u4 => k_asm)
    (case u5 => k_asm)
    (case v1 => exact rfl)
    (case v2 => exact rfl)
    (case v3 => exact rfl)
    (case v4 => exact rfl)
    (case v5 => exact rfl)
    (case u6 => exact Nat.le_of_ble_eq_true rfl)
    (case u7 => exact Nat.le_of_ble_eq_true rfl)
    (case u8 => exact fun G ret => c_stood1 (vs := refsOf' inn) (st := st) G (News.isList N16 (.tail _ (.tail _ (.tail _ (.head _))))) (by rw [hil]; exact hp3) (by rw [hil]; omega) ret)
    rintro _ h15 tk15 _ F15 N15 - - ⟨aZ, nZ, wZ, rfl, rfl, iZ⟩
    replace iZ : IntsAre wZ (stoodOf km st) := by rw [stood_other hp3]; exact iZ
    dsimp only [List.cons_append, List.nil_append] at N15
    (try dsimp only)
    (repeat' (first | (walk_at "mine stops"; (fail_if_success (with_reducible (first | (show wpAny _ _ (call (Value.builtin "sorted") _) _ _ _) | (show wpAny _ _ (compareOp _ (Value.ref _) (Value.ref _)) _ _ _) | (show wpAny _ _ (subscriptTail (Expr.Name (Str.ofString "hues") _) _ _ _) _ _ _) | (show wpAny _ _ (subscriptTail (Expr.Name (Str.ofString "row") _) _ _ _) _ _ _) | (show wpAny _ _ (binaryOp Operator.Add (Value.ref _) (Value.ref _)) _ _ _) | (show wpAny _ _ (call (Value.builtin "str.join") _) _ _ _) | (show wpAny _ _ (execs [_, _, _] _) _ _ _)))); walk_at "mine step")))
    rename_i h17 F17 N17
    refine cont h17 _ _ aZ nZ wZ tF F17 rfl rfl hagain iZ fun p hp => N17 p ?_
    · revert hp
      intro hp
      rcases List.mem_cons.mp hp with rfl | hp
      · exact .head _
      rcases List.mem_cons.mp hp with rfl | hp
      · exact .tail _ (.tail _ (.tail _ (.tail _ (.tail _ (.tail _ (.head _))))))
      rcases List.mem_cons.mp hp with rfl | hp
      · exact .tail _ (.tail _ (.tail _ (.tail _ (.tail _ (.tail _ (.tail _ (.head _)))))))
      rcases List.mem_cons.mp hp with rfl | hp
      · exact .tail _ (.tail _ (.tail _ (.tail _ (.tail _ (.tail _ (.tail _ (.tail _ (.head _))))))))
      rcases List.mem_cons.mp hp with rfl | hp
      · exact .tail _ (.tail _ (.tail _ (.tail _ (.tail _ (.tail _ (.tail _ (.tail _ (.tail _ (.head _)))))))))
      rcases List.mem_cons.mp hp with rfl | hp
      · exact .tail _ (.tail _ (.tail _ (.tail _ (.tail _ (.tail _ (.tail _ (.tail _ (.tail _ (.tail _ (.head _))))))))))
      rcases List.mem_cons.mp hp with rfl | hp
      · exact .tail _ (.tail _ (.tail _ (.tail _ (.tail _ (.tail _ (.tail _ (.tail _ (.tail _ (.tail _ (.tail _ (.head _)))))))))))
      rcases List.mem_cons.mp hp with rfl | hp
      · exact .tail _ (.tail _ (.tail _ (.tail _ (.tail _ (.tail _ (.tail _ (.tail _ (.tail _ (.tail _ (.tail _ (.tail _ (.head _))))))))))))
      rcases List.mem_cons.mp hp with rfl | hp
      · exact .tail _ (.tail _ (.tail _ (.tail _ (.tail _ (.tail _ (.tail _ (.tail _ (.tail _ (.tail _ (.tail _ (.tail _ (.tail _ (.head _)))))))))))))
      rcases List.mem_cons.mp hp with rfl | hp
      · exact .tail _ (.tail _ (.tail _ (.tail _ (.tail _ (.tail _ (.tail _ (.tail _ (.tail _ (.tail _ (.tail _ (.tail _ (.tail _ (.tail _ (.head _))))))))))))))
      rcases List.mem_cons.mp hp with rfl | hp
      · exact .tail _ (.tail _ (.tail _ (.tail _ (.tail _ (.tail _ (.tail _ (.tail _ (.tail _ (.tail _ (.tail _ (.tail _ (.tail _ (.tail _ (.tail _ (.head _)))))))))))))))
      rcases List.mem_cons.mp hp with rfl | hp
      · exact .tail _ (.tail _ (.tail _ (.tail _ (.tail _ (.tail _ (.tail _ (.tail _ (.tail _ (.tail _ (.tail _ (.tail _ (.tail _ (.tail _ (.tail _ (.tail _ (.head _))))))))))))))))
      exact .tail _ (.tail _ (.tail _ (.tail _ (.tail _ (.tail _ (.tail _ (.tail _ (.tail _ (.tail _ (.tail _ (.tail _ (.tail _ (.tail _ (.tail _ (.tail _ (.tail _ (List.mem_append_right _ hp)))))))))))))))))
end Mine
end

section
open PySem PySem.W PySem.Calls PyProof.Rows
namespace Mine
set_option maxRecDepth 100000 in
set_option maxHeartbeats 8000000 in
theorem law_turn2 {w : World} {mean : ExcName → Option Value} {mg mb : Str → Option Value} {base h₀ : Heap} {L : Addr} {name qual : Str} {scope : Scope} {cdv : Value} {body : List Stmt} {s : Shared} {m : Str → Option Value} {Q : Flow → Shared → Prop} {E : Value → Shared → Prop}
    {aS aK aH aC aO aW aD I : Addr} {kS kK kH kC kO kW kD : Nat} {wS wK wH wC wO wW wD : List Value} {sm km cm om : List Int} {o1 o2 o3 o4 o5 it : Obj} {tups : List (Addr × Obj)} {num s1 : Int} {tn tf : Tok}
    (hlaw : IsLaw w name qual scope cdv body) (B' : Below callerA base [] h₀) (X' : (heapK w.params).In h₀) (T' : TopV mean mg mb h₀)
    (d1 : o1.data = .cell (some (.ref aS))) (d2 : o2.data = .cell (some (.ref aK))) (d3 : o3.data = .cell (some (.ref aH))) (d4 : o4.data = .cell (some (.ref aC))) (d5 : o5.data = .cell (some (.ref aO)))
    (iS : IntsAre wS sm) (nS : sm.length = 8) (iK : IntsAre wK km) (okK : KOk km) (iC : IntsAre wC cm) (hcm : cm = chL km sm) (iO : IntsAre wO om) (hom : om = otL km cm) (fH : FlAre wH (fun k => hueJ (plJ sm k))) (nH : wH.length = 8)
    (s10 : 0 ≤ s1 ∧ s1 < 8) (iD : IntsAre wD (stoodOf km s1)) (nW8 : wW.length = 8)
    (hR : ∀ (j : Nat) (y : Value), wW[j]? = some y → ∃ t, y = .str (S [(rowL (sgO km cm sm)).getD j 0]) t)
    (hrow : m (Str.ofString "row") = some (.ref aW)) (hfirst : m (Str.ofString "first") = some (.str (S ((stoodOf km s1).map (sgK km sm))) tf)) (hstood : m (Str.ofString "stood") = some (.ref aD))
    (F : Fr h₀ L s.heap (fun y => if y = Str.ofString "number" then some (.int num tn) else m y)) (N : News h₀ L s.heap ((I, it) :: (aW, listOf wW.toArray kW) :: (aD, listOf wD.toArray kD) :: (aO, listOf wO.toArray kO) :: (aC, listOf wC.toArray kC) :: (aH, listOf wH.toArray kH) :: (aK, listOf wK.toArray kK) :: (aS, listOf wS.toArray kS) :: (L + 1 + 1 + 1 + 1 + 1, o5) :: (L + 1 + 1 + 1 + 1, o4) :: (L + 1 + 1 + 1, o3) :: (L + 1 + 1, o2) :: (L + 1, o1) :: tups))
    (ret : ∀ h' tk m', Fr h₀ L h' m' → m' (Str.ofString "row") = some (.ref aW) → m' (Str.ofString "first") = some (.str (S ((stoodOf km s1).map (sgK km sm))) tf) → m' (Str.ofString "stood") = some (.ref aD) → News h₀ L h' ((I, it) :: (aW, listOf wW.toArray kW) :: (aD, listOf wD.toArray kD) :: (aO, listOf wO.toArray kO) :: (aC, listOf wC.toArray kC) :: (aH, listOf wH.toArray kH) :: (aK, listOf wK.toArray kK) :: (aS, listOf wS.toArray kS) :: (L + 1 + 1 + 1 + 1 + 1, o5) :: (L + 1 + 1 + 1 + 1, o4) :: (L + 1 + 1 + 1, o3) :: (L + 1 + 1, o2) :: (L + 1, o1) :: tups) → Q .next { s with heap := h', toks := tk }) :
    wpAny (model PG w) (callerA.deeper (envOfC qual scope L 109 cdv)) (execs (forBody body 16) (envOfC qual scope L 109 cdv)) Q E s := by
  w_on
  refine' law_elim (P := fun qual scope cdv body => wpAny (model PG w) (callerA.deeper (envOfC qual scope L 109 cdv)) (execs (forBody body 16) (envOfC qual scope L 109 cdv)) Q E s) hlaw ?ho ?_
  (case ho => k_is)
  clear hlaw
  dsimp only [forBody, List.drop]
  have nO : om.length = 8 := by rw [hom]; rfl
  have nC : cm.length = 8 := by rw [hcm]; rfl
  have hgate : ∀ k, 0 ≤ k → k < 8 → (sgO km cm sm k = 39 ↔ gateOf km k = true) := by rw [hcm]; exact sgO_gate okK
  have nK : km.length = 8 := okK.1
  obtain ⟨st, hst⟩ : ∃ st, st = (num.fdiv 36).fmod 8 := ⟨_, rfl⟩
  have st0 : 0 ≤ st ∧ st < 8 := by rw [hst, Int.fmod_eq_emod_of_nonneg _ (by decide)]; omega
  have T2 := two_ok okK s10.1 s10.2 st0.1 st0.2
  obtain ⟨dp1, dp2⟩ := dist_price okK (sm := sm) s10.1 s10.2 st0.1 st0.2
  rw [← hcm] at dp1 dp2
  (repeat' (first | (walk_at "mine stops"; (fail_if_success (with_reducible (first | (show wpAny _ _ (call (Value.builtin "sorted") _) _ _ _) | (show wpAny _ _ (compareOp _ (Value.ref _) (Value.ref _)) _ _ _) | (show wpAny _ _ (subscriptTail (Expr.Name (Str.ofString "hues") _) _ _ _) _ _ _) | (show wpAny _ _ (subscriptTail (Expr.Name (Str.ofString "row") _) _ _ _) _ _ _) | (show wpAny _ _ (binaryOp Operator.Add (Value.ref _) (Value.ref _)) _ _ _) | (show wpAny _ _ (call (Value.builtin "str.join") _) _ _ _)))); walk_at "mine step")))
  rename_i h4 F4 N4
  rw [← hst] at F4 ⊢
  refine' call_use (dp := 320) (un := 1000) ?u1 ?u2 ?u3 ?u4 ?u5 ?v1 ?v2 ?v3 ?u6 ?u7 ?v4 ?v5 ?u8 ?_
  (case u1 => k_asm)
  (case u2 => k_asm)
  (case u3 => k_asm)
  (case u4 => k_asm)
  (case u5 => k_asm)
  (case v1 => exact rfl)
  (case v2 => exact rfl)
  (case v3 => exact rfl)
  (case v4 => exact rfl)
  (case v5 => exact rfl)
  (case u6 => exact Nat.le_of_ble_eq_true rfl)
  (case u7 => exact Nat.le_of_ble_eq_true rfl)
  (case u8 => exact fun G ret => c_pieces (ks := km) (st := st) G (News.isList N4 (.tail _ (.tail _ (.tail _ (.tail _ (.tail _ (.tail _ (.head _)))))))) iK nK st0.1 st0.2 ret)
  rintro _ h5 tk5 _ F5 N5 - - ⟨aP, kP, inn, rfl, rfl, pin⟩
  replace N5 : News h₀ L h5 ((aP, listOf (refsOf' inn).toArray kP) :: (I, it) :: (aW, listOf wW.toArray kW) :: (aD, listOf wD.toArray kD) :: (aO, listOf wO.toArray kO) :: (aC, listOf wC.toArray kC) :: (aH, listOf wH.toArray kH) :: (aK, listOf wK.toArray kK) :: (aS, listOf wS.toArray kS) :: (L + 1 + 1 + 1 + 1 + 1, o5) :: (L + 1 + 1 + 1 + 1, o4) :: (L + 1 + 1 + 1, o3) :: (L + 1 + 1, o2) :: (L + 1, o1) :: (inn ++ tups)) := fun p hp => N5 p (sink (lit := (I, it) :: (aW, listOf wW.toArray kW) :: (aD, listOf wD.toArray kD) :: [(aO, listOf wO.toArray kO), (aC, listOf wC.toArray kC), (aH, listOf wH.toArray kH), (aK, listOf wK.toArray kK), (aS, listOf wS.toArray kS), (L + 1 + 1 + 1 + 1 + 1, o5), (L + 1 + 1 + 1 + 1, o4), (L + 1 + 1 + 1, o3), (L + 1 + 1, o2), (L + 1, o1)]) hp)
  clear N4 F4
  (try dsimp only)
  (repeat' (first | (walk_at "mine stops"; (fail_if_success (with_reducible (first | (show wpAny _ _ (call (Value.builtin "sorted") _) _ _ _) | (show wpAny _ _ (compareOp _ (Value.ref _) (Value.ref _)) _ _ _) | (show wpAny _ _ (subscriptTail (Expr.Name (Str.ofString "hues") _) _ _ _) _ _ _) | (show wpAny _ _ (subscriptTail (Expr.Name (Str.ofString "row") _) _ _ _) _ _ _) | (show wpAny _ _ (binaryOp Operator.Add (Value.ref _) (Value.ref _)) _ _ _) | (show wpAny _ _ (call (Value.builtin "str.join") _) _ _ _)))); walk_at "mine step")))
  refine' kms_slice_lit ?y1 ?y2 ?y3 ?y4 ?y5 ?y6 ?_ ?y7 ?y8 ?y9
  (case y1 => k_asm)
  (case y2 => k_asm)
  (case y3 => exact News.isList (by k_asm) (by k_mem))
  (case y4 => kmk_part)
  (case y5 => kmk_part)
  (case y6 => exact pick_from nW8 st0.1 st0.2)
  (case y7 => with_unfolding_all rfl)
  (case y8 => kmk_pure)
  (case y9 => (rw [sizeLine_eq]; simp; omega))
  intro D' h' F' N' l1
  (try k_lt l1)
  (try k_sweep)
  (try dsimp only)
  (repeat' (first | (walk_at "mine stops"; (fail_if_success (with_reducible (first | (show wpAny _ _ (call (Value.builtin "sorted") _) _ _ _) | (show wpAny _ _ (compareOp _ (Value.ref _) (Value.ref _)) _ _ _) | (show wpAny _ _ (subscriptTail (Expr.Name (Str.ofString "hues") _) _ _ _) _ _ _) | (show wpAny _ _ (subscriptTail (Expr.Name (Str.ofString "row") _) _ _ _) _ _ _) | (show wpAny _ _ (binaryOp Operator.Add (Value.ref _) (Value.ref _)) _ _ _) | (show wpAny _ _ (call (Value.builtin "str.join") _) _ _ _)))); walk_at "mine step")))
  refine' kms_slice_lit ?y1 ?y2 ?y3 ?y4 ?y5 ?y6 ?_ ?y7 ?y8 ?y9
  (case y1 => k_asm)
  (case y2 => k_asm)
  (case y3 => exact News.isList (by k_asm) (by k_mem))
  (case y4 => kmk_part)
  (case y5 => kmk_part)
  (case y6 => exact pick_to nW8 st0.1 st0.2)
  (case y7 => with_unfolding_all rfl)
  (case y8 => kmk_pure)
  (case y9 => (rw [sizeLine_eq]; simp; omega))
  intro D' h' F' N' l1
  (try k_lt l1)
  (try k_sweep)
  (try dsimp only)
  (repeat' (first | (walk_at "mine stops"; (fail_if_success (with_reducible (first | (show wpAny _ _ (call (Value.builtin "sorted") _) _ _ _) | (show wpAny _ _ (compareOp _ (Value.ref _) (Value.ref _)) _ _ _) | (show wpAny _ _ (subscriptTail (Expr.Name (Str.ofString "hues") _) _ _ _) _ _ _) | (show wpAny _ _ (subscriptTail (Expr.Name (Str.ofString "row") _) _ _ _) _ _ _) | (show wpAny _ _ (binaryOp Operator.Add (Value.ref _) (Value.ref _)) _ _ _) | (show wpAny _ _ (call (Value.builtin "str.join") _) _ _ _)))); walk_at "mine step")))
  refine' add_arrays ?y1 ?y2 ?y3 ?y4 ?_ ?y9
  (case y1 => k_asm)
  (case y2 => k_asm)
  (case y3 => exact News.isList (by k_asm) (by k_mem))
  (case y4 => exact News.isList (by k_asm) (by k_mem))
  (case y9 => (rw [sizeLine_eq]; simp; omega))
  intro h' F' N'
  (try k_sweep)
  (try dsimp only)
  (repeat' (first | (walk_at "mine stops"; (fail_if_success (with_reducible (first | (show wpAny _ _ (call (Value.builtin "sorted") _) _ _ _) | (show wpAny _ _ (compareOp _ (Value.ref _) (Value.ref _)) _ _ _) | (show wpAny _ _ (subscriptTail (Expr.Name (Str.ofString "hues") _) _ _ _) _ _ _) | (show wpAny _ _ (subscriptTail (Expr.Name (Str.ofString "row") _) _ _ _) _ _ _) | (show wpAny _ _ (binaryOp Operator.Add (Value.ref _) (Value.ref _)) _ _ _) | (show wpAny _ _ (call (Value.builtin "str.join") _) _ _ _)))); walk_at "mine step")))
  obtain ⟨jA, jB, jC⟩ := rot_join (f := sgO km cm sm) nW8 hR st0.1 st0.2
  rw [S_empty]
  refine join_list (News.isList N' (.head _)) jA jC ?_
  intro t9 k9
  rw [jB]
  replace N' : News h₀ L h' ((aP, listOf (refsOf' inn).toArray kP) :: (I, it) :: (aW, listOf wW.toArray kW) :: (aD, listOf wD.toArray kD) :: (aO, listOf wO.toArray kO) :: (aC, listOf wC.toArray kC) :: (aH, listOf wH.toArray kH) :: (aK, listOf wK.toArray kK) :: (aS, listOf wS.toArray kS) :: (L + 1 + 1 + 1 + 1 + 1, o5) :: (L + 1 + 1 + 1 + 1, o4) :: (L + 1 + 1 + 1, o3) :: (L + 1 + 1, o2) :: (L + 1, o1) :: (inn ++ tups)) := fun p hp => N' p (.tail _ (.tail _ (.tail _ (hp))))
  have hsp := read_split okK (f := sgO km cm sm) hgate st0.1 st0.2
  have hpl := pieces_le okK st0.1 st0.2
  have hwp := words_pieces (km := km) st0.1 (sgO km cm sm)
  have hgl := read_glue okK (f := sgO km cm sm) hgate st0.1 st0.2
  have hxl : (S ((rotR st).map (sgO km cm sm))).length ≤ 100 := by rw [S_len, List.length_map]; exact Nat.le_of_ble_eq_true rfl
  (try k_unmd)
  (try k_unfold)
  (try dsimp only)
  (repeat' (first | (walk_at "mine stops"; (fail_if_success (with_reducible (first | (show wpAny _ _ (call (Value.builtin "sorted") _) _ _ _) | (show wpAny _ _ (compareOp _ (Value.ref _) (Value.ref _)) _ _ _) | (show wpAny _ _ (subscriptTail (Expr.Name (Str.ofString "hues") _) _ _ _) _ _ _) | (show wpAny _ _ (subscriptTail (Expr.Name (Str.ofString "row") _) _ _ _) _ _ _) | (show wpAny _ _ (binaryOp Operator.Add (Value.ref _) (Value.ref _)) _ _ _) | (show wpAny _ _ (call (Value.builtin "str.join") _) _ _ _)))); walk_at "mine step")))
  by_cases hp3 : (piecesOf km st).length = 3
  · obtain ⟨q0, q1, q2, hq⟩ := three_of hp3
    rw [hq] at hsp
    refine' call_use (dp := 320) (un := 1000) ?u1 ?u2 ?u3 ?u4 ?u5 ?v1 ?v2 ?v3 ?u6 ?u7 ?v4 ?v5 ?u8 ?_
    (case u1 => k_asm)
    (case u2 => k_asm)
    (case u3 => k_asm)
    (case u4 => k_asm)
    (case u5 => k_asm)
    (case v1 => exact rfl)
    (case v2 => exact rfl)
    (case v3 => exact rfl)
    (case v4 => exact rfl)
    (case v5 => exact rfl)
    (case u6 => exact Nat.le_of_ble_eq_true rfl)
    (case u7 => exact Nat.le_of_ble_eq_true rfl)
    (case u8 => exact fun G ret => c_dec3 G hxl hsp ret)
    rintro _ h7 tk7 _ F7 N7 - - ⟨aX, nX, w1, w2, w3, rfl, rfl⟩
    dsimp only [List.cons_append, List.nil_append] at N7
    (try dsimp only)
    (repeat' (first | (walk_at "mine stops"; (fail_if_success (with_reducible (first | (show wpAny _ _ (call (Value.builtin "sorted") _) _ _ _) | (show wpAny _ _ (compareOp _ (Value.ref _) (Value.ref _)) _ _ _) | (show wpAny _ _ (subscriptTail (Expr.Name (Str.ofString "hues") _) _ _ _) _ _ _) | (show wpAny _ _ (subscriptTail (Expr.Name (Str.ofString "row") _) _ _ _) _ _ _) | (show wpAny _ _ (binaryOp Operator.Add (Value.ref _) (Value.ref _)) _ _ _) | (show wpAny _ _ (call (Value.builtin "str.join") _) _ _ _)))); walk_at "mine step")))
    rename_i h8 F8 N8
    have X8 := X'.keeps F8.keep
    have T8 := T'.keeps F8.keep
    have hH8 : h8.IsList aH wH.toArray := News.isList N8 (.tail _ (.tail _ (.tail _ (.tail _ (.tail _ (.tail _ (.tail _ (.head _))))))))
    have hK8 : h8.IsList aO wO.toArray := News.isList N8 (.tail _ (.tail _ (.tail _ (.tail _ (.tail _ (.head _))))))
    have hCH8 : h8.IsCell (L + 1 + 1 + 1) (some (.ref aH)) := ⟨_, (N8 (L + 1 + 1 + 1, o3) (.tail _ (.tail _ (.tail _ (.tail _ (.tail _ (.tail _ (.tail _ (.tail _ (.tail _ (.tail _ (.tail _ (.tail _ (.head _)))))))))))))).1, d3⟩
    have hCK8 : h8.IsCell (L + 1 + 1 + 1 + 1 + 1) (some (.ref aO)) := ⟨_, (N8 (L + 1 + 1 + 1 + 1 + 1, o5) (.tail _ (.tail _ (.tail _ (.tail _ (.tail _ (.tail _ (.tail _ (.tail _ (.tail _ (.tail _ (.head _)))))))))))).1, d5⟩
    (try k_unmd)
    (try k_fold)
    refine wpAny_ListComp_free (cl := [(Str.ofString "others", L + 1 + 1 + 1 + 1 + 1), (Str.ofString "hues", L + 1 + 1 + 1)]) (fun _ => true) (fun v y => ∃ k : Nat, ∃ t t', v = .int (k : Int) t ∧ y = .str (S [(rowL (sgO km cm sm)).getD k 0]) t') ?c1 ?c2 ?c3 ?c4 ?c5 ?_ ?c6
    (case c1 => with_unfolding_all rfl)
    (case c2 => decide)
    (case c3 => with_unfolding_all rfl)
    (case c4 => decide)
    (case c5 => with_unfolding_all rfl)
    (case c6 => intro _; with_unfolding_all rfl)
    (repeat' (first | (walk_at "mine stops"; (fail_if_success (with_reducible (first | (show wpAny _ _ (call (Value.builtin "sorted") _) _ _ _) | (show wpAny _ _ (compareOp _ (Value.ref _) (Value.ref _)) _ _ _) | (show wpAny _ _ (subscriptTail (Expr.Name (Str.ofString "hues") _) _ _ _) _ _ _) | (show wpAny _ _ (subscriptTail (Expr.Name (Str.ofString "row") _) _ _ _) _ _ _) | (show wpAny _ _ (binaryOp Operator.Add (Value.ref _) (Value.ref _)) _ _ _) | (show wpAny _ _ (call (Value.builtin "str.join") _) _ _ _)))); walk_at "mine step")))
    rename_i h9 tk9 t9 u9 v9 hr9 F9 N9 kp9
    have hH9 : h9.IsList aH wH.toArray := stays_list kp9 hH8
    have hK9 : h9.IsList aO wO.toArray := stays_list kp9 hK8
    have hCH9 : h9.IsCell (L + 1 + 1 + 1) (some (.ref aH)) := hCH8.keeps kp9
    have hCK9 : h9.IsCell (L + 1 + 1 + 1 + 1 + 1) (some (.ref aO)) := hCK8.keeps kp9
    have X9 := X'.keeps F9.keep
    have T9 := T'.keeps F9.keep
    refine src_range (n := 8) rfl hr9 (by decide) ?_
    rintro it _ ⟨h₆, rfl⟩ Sr
    refine comp_evalT Sr ?_ ?_
    · rintro C i _ s₃ m₃ E' ⟨hi8, ti, rfl⟩ Fc hm
      have F10 := F9.grownK Fc.keep
      have N10 := N9.grown Fc.keep
      have hH10 : s₃.heap.IsList aH wH.toArray := stays_list Fc.keep hH9
      have hpl := plJ_bd (sm := sm) hi8
      have hkb := om_bd okK (sm := sm) hi8
      rw [← hcm, ← hom] at hkb
      obtain ⟨tH, hxH⟩ : ∃ tH, wH[i]? = some (.float (hueJ (plJ sm i)) tH) := by
        have hlt : i < wH.length := by omega
        obtain ⟨tH, h, hp⟩ := fH i wH[i] (by simp [hlt])
        exact ⟨tH, by simp [hlt, h]⟩
      (repeat' (first | (walk_at "mine stops"; (fail_if_success (with_reducible (first | (show wpAny _ _ (call (Value.builtin "sorted") _) _ _ _) | (show wpAny _ _ (compareOp _ (Value.ref _) (Value.ref _)) _ _ _) | (show wpAny _ _ (subscriptTail (Expr.Name (Str.ofString "hues") _) _ _ _) _ _ _) | (show wpAny _ _ (subscriptTail (Expr.Name (Str.ofString "row") _) _ _ _) _ _ _) | (show wpAny _ _ (binaryOp Operator.Add (Value.ref _) (Value.ref _)) _ _ _) | (show wpAny _ _ (call (Value.builtin "str.join") _) _ _ _)))); walk_at "mine step")))
      refine' item_fl ?z1 ?z2 ?z3 ?_ ?z4 ?z5
      (case z1 => exact hH10)
      (case z2 => exact hxH)
      (case z3 => exact hi8)
      (case z4 => with_unfolding_all rfl)
      (case z5 => intro _; with_unfolding_all rfl)
      (try dsimp only)
      (repeat' (first | (walk_at "mine stops"; (fail_if_success (with_reducible (first | (show wpAny _ _ (call (Value.builtin "sorted") _) _ _ _) | (show wpAny _ _ (compareOp _ (Value.ref _) (Value.ref _)) _ _ _) | (show wpAny _ _ (subscriptTail (Expr.Name (Str.ofString "hues") _) _ _ _) _ _ _) | (show wpAny _ _ (subscriptTail (Expr.Name (Str.ofString "row") _) _ _ _) _ _ _) | (show wpAny _ _ (binaryOp Operator.Add (Value.ref _) (Value.ref _)) _ _ _) | (show wpAny _ _ (call (Value.builtin "str.join") _) _ _ _)))); walk_at "mine step")))
      refine' call_use (dp := 400) (un := 2000) ?u1 ?u2 ?u3 ?u4 ?u5 ?v1 ?v2 ?v3 ?u6 ?u7 ?v4 ?v5 ?u8 ?_
      (case u1 => k_asm)
      (case u2 => k_asm)
      (case u3 => k_asm)
      (case u4 => k_asm)
      (case u5 => k_asm)
      (case v1 => exact rfl)
      (case v2 => exact rfl)
      (case v3 => exact rfl)
      (case v4 => exact rfl)
      (case v5 => exact rfl)
      (case u6 => exact Nat.le_of_ble_eq_true rfl)
      (case u7 => exact Nat.le_of_ble_eq_true rfl)
      (case u8 => exact fun G ret => c_sign G (hue_place hpl.1 hpl.2) hpl.1 hpl.2 hkb.1 hkb.2.1 ret)
      rintro _ h11 tk11 _ F11 N11 - st11 ⟨t11, rfl, rfl⟩
      (try k_unmd)
      (try k_unfold)
      (try dsimp only)
      exact CEnd.mk st11 ⟨i, _, _, rfl, congrArg (Value.str · _) (by rw [hom]; exact sign_rowO hi8)⟩
    intro aE kE ys h12 tk12 nE hE st12 nw12
    have hSg := row_strs hE
    obtain ⟨F12, N12, ne12⟩ := news_new F9 N9 st12 nw12
    dsimp only [List.cons_append, List.nil_append] at N12
    clear hE nw12 st12 Sr F9 N9 ne12
    (try dsimp only)
    (repeat' (first | (walk_at "mine stops"; (fail_if_success (with_reducible (first | (show wpAny _ _ (call (Value.builtin "sorted") _) _ _ _) | (show wpAny _ _ (compareOp _ (Value.ref _) (Value.ref _)) _ _ _) | (show wpAny _ _ (subscriptTail (Expr.Name (Str.ofString "hues") _) _ _ _) _ _ _) | (show wpAny _ _ (subscriptTail (Expr.Name (Str.ofString "row") _) _ _ _) _ _ _) | (show wpAny _ _ (binaryOp Operator.Add (Value.ref _) (Value.ref _)) _ _ _) | (show wpAny _ _ (call (Value.builtin "str.join") _) _ _ _)))); walk_at "mine step")))
    have hin : ∀ p ∈ inn, h12.get? p.1 = some p.2 := fun p hp => (N12 p (.tail _ (.tail _ (.tail _ (.tail _ (.tail _ (.tail _ (.tail _ (.tail _ (.tail _ (.tail _ (.tail _ (.tail _ (.tail _ (.tail _ (.tail _ (.tail _ (List.mem_append_left _ hp)))))))))))))))))).1
    refine' call_use (dp := 320) (un := 1000) ?u1 ?u2 ?u3 ?u4 ?u5 ?v1 ?v2 ?v3 ?u6 ?u7 ?v4 ?v5 ?u8 ?_
    (case u1 => k_asm)
    (case u2 => k_asm)
    (case u3 => k_asm)
    (case u4 => k_asm)
    (case u5 => k_asm)
    (case v1 => exact rfl)
    (case v2 => exact rfl)
    (case v3 => exact rfl)
    (case v4 => exact rfl)
    (case v5 => exact rfl)
    (case u6 => exact Nat.le_of_ble_eq_true rfl)
    (case u7 => exact Nat.le_of_ble_eq_true rfl)
    (case u8 => exact fun G ret => c_due (sg := rowL (sgO km cm sm)) (pcs := piecesOf km st) G (News.isList N12 (.head _)) nE hSg (News.isList N12 (.tail _ (.tail _ (.head _)))) hin pin (by omega) (pieces_mem st0.1) ret)
    rintro v13 h13 tk13 new13 F13 N13 - - ⟨p3, -⟩
    obtain ⟨aF, nF, yF, rfl, rfl, sF⟩ := p3 hp3
    dsimp only [List.cons_append, List.nil_append] at N13
    rw [hwp, hq] at sF
    (try dsimp only)
    refine ne_strs (ss := [S (q0.map (sgO km cm sm)), S (q1.map (sgO km cm sm)), S (q2.map (sgO km cm sm))]) (vs := [.str (S (q0.map (sgO km cm sm))) w1, .str (S (q1.map (sgO km cm sm))) w2, .str (S (q2.map (sgO km cm sm))) w3]) (News.isList N13 (.tail _ (.tail _ (.head _)))) (News.isList N13 (.head _)) (.cons _ _ (.cons _ _ (.cons _ _ .nil))) sF ?hu ?_
    (case hu => exact Nat.lt_of_le_of_lt (Nat.le_of_ble_eq_true rfl) room_1000)
    (try dsimp only)
    (repeat' (first | (walk_at "mine stops"; (fail_if_success (with_reducible (first | (show wpAny _ _ (call (Value.builtin "sorted") _) _ _ _) | (show wpAny _ _ (compareOp _ (Value.ref _) (Value.ref _)) _ _ _) | (show wpAny _ _ (subscriptTail (Expr.Name (Str.ofString "hues") _) _ _ _) _ _ _) | (show wpAny _ _ (subscriptTail (Expr.Name (Str.ofString "row") _) _ _ _) _ _ _) | (show wpAny _ _ (binaryOp Operator.Add (Value.ref _) (Value.ref _)) _ _ _) | (show wpAny _ _ (call (Value.builtin "str.join") _) _ _ _)))); walk_at "mine step")))
    have hl0 : q0.length ≤ 8 ∧ q2.length ≤ 8 := ⟨(pieces_mem (ks := km) st0.1 q0 (by rw [hq]; exact .head _)).1, (pieces_mem (ks := km) st0.1 q2 (by rw [hq]; exact .tail _ (.tail _ (.head _)))).1⟩
    refine' call_use (dp := 320) (un := 1000) ?u1 ?u2 ?u3 ?u4 ?u5 ?v1 ?v2 ?v3 ?u6 ?u7 ?v4 ?v5 ?u8 ?_
    (case u1 => k_asm)
    (case u2 => k_asm)
    (case u3 => k_asm)
    (case u4 => k_asm)
    (case u5 => k_asm)
    (case v1 => exact rfl)
    (case v2 => exact rfl)
    (case v3 => exact rfl)
    (case v4 => exact rfl)
    (case v5 => exact rfl)
    (case u6 => exact Nat.le_of_ble_eq_true rfl)
    (case u7 => exact Nat.le_of_ble_eq_true rfl)
    (case u8 => exact fun G ret => c_shown_l (x := S (q0.map (sgO km cm sm))) (y := S (q1.map (sgO km cm sm))) (z := S (q2.map (sgO km cm sm))) (t1 := w1) (t2 := w2) (t3 := w3) G (News.isList N13 (.tail _ (.tail _ (.head _)))) (by rw [S_len, List.length_map]; omega) (by rw [S_len, List.length_map]; omega) ret)
    rintro _ h14 tk14 _ F14 N14 - - ⟨tF, rfl, rfl⟩
    dsimp only [List.nil_append] at N14
    rw [S_app, ← List.map_append, ← stood_three hq]
    (try dsimp only)
    (repeat' (first | (walk_at "mine stops"; (fail_if_success (with_reducible (first | (show wpAny _ _ (call (Value.builtin "sorted") _) _ _ _) | (show wpAny _ _ (compareOp _ (Value.ref _) (Value.ref _)) _ _ _) | (show wpAny _ _ (subscriptTail (Expr.Name (Str.ofString "hues") _) _ _ _) _ _ _) | (show wpAny _ _ (subscriptTail (Expr.Name (Str.ofString "row") _) _ _ _) _ _ _) | (show wpAny _ _ (binaryOp Operator.Add (Value.ref _) (Value.ref _)) _ _ _) | (show wpAny _ _ (call (Value.builtin "str.join") _) _ _ _)))); walk_at "mine step")))
    rename_i h16 F16 N16
    have hin2 : ∀ p ∈ inn, h16.get? p.1 = some p.2 := fun p hp => (N16 p (.tail _ (.tail _ (.tail _ (.tail _ (.tail _ (.tail _ (.tail _ (.tail _ (.tail _ (.tail _ (.tail _ (.tail _ (.tail _ (.tail _ (.tail _ (.tail _ (.tail _ (List.mem_append_left _ hp))))))))))))))))))).1
    refine' call_use (dp := 320) (un := 1000) ?u1 ?u2 ?u3 ?u4 ?u5 ?v1 ?v2 ?v3 ?u6 ?u7 ?v4 ?v5 ?u8 ?_
    (case u1 => k_asm)
    (case u2 => k_asm)
    (case u3 => k_asm)
    (case u4 => k_asm)
    (case u5 => k_asm)
    (case v1 => exact rfl)
    (case v2 => exact rfl)
    (case v3 => exact rfl)
    (case v4 => exact rfl)
    (case v5 => exact rfl)
    (case u6 => exact Nat.le_of_ble_eq_true rfl)
    (case u7 => exact Nat.le_of_ble_eq_true rfl)
    (case u8 => exact fun G ret => c_stood3 (inn := inn) (q0 := q0) (q1 := q1) (q2 := q2) G (News.isList N16 (.tail _ (.tail _ (.tail _ (.head _))))) hin2 (hq ▸ pin) hl0.1 hl0.2 ret)
    rintro _ h15 tk15 _ F15 N15 - - ⟨aZ, nZ, wZ, rfl, rfl, iZ⟩
    rw [← stood_three hq] at iZ
    dsimp only [List.cons_append, List.nil_append] at N15
    (try dsimp only)
    (repeat' (first | (walk_at "mine stops"; (fail_if_success (with_reducible (first | (show wpAny _ _ (call (Value.builtin "sorted") _) _ _ _) | (show wpAny _ _ (compareOp _ (Value.ref _) (Value.ref _)) _ _ _) | (show wpAny _ _ (subscriptTail (Expr.Name (Str.ofString "hues") _) _ _ _) _ _ _) | (show wpAny _ _ (subscriptTail (Expr.Name (Str.ofString "row") _) _ _ _) _ _ _) | (show wpAny _ _ (binaryOp Operator.Add (Value.ref _) (Value.ref _)) _ _ _) | (show wpAny _ _ (call (Value.builtin "str.join") _) _ _ _)))); walk_at "mine step")))
    refine' call_use (dp := 320) (un := 1000) ?u1 ?u2 ?u3 ?u4 ?u5 ?v1 ?v2 ?v3 ?u6 ?u7 ?v4 ?v5 ?u8 ?_
    (case u1 => k_asm)
    (case u2 => k_asm)
    (case u3 => k_asm)
    (case u4 => k_asm)
    (case u5 => k_asm)
    (case v1 => exact rfl)
    (case v2 => exact rfl)
    (case v3 => exact rfl)
    (case v4 => exact rfl)
    (case v5 => exact rfl)
    (case u6 => exact Nat.le_of_ble_eq_true rfl)
    (case u7 => exact Nat.le_of_ble_eq_true rfl)
    (case u8 => exact fun G ret => c_price (one := stoodOf km s1) (two := stoodOf km st) (ch := cm) G (N15 _ (.tail _ (.tail _ (.tail _ (.tail _ (.tail _ (.tail _ (.tail _ (.head _))))))))).1 iD T2.l T2.b (News.isList N15 (.head _)) iZ T2.l2 (News.isList N15 (.tail _ (.tail _ (.tail _ (.tail _ (.tail _ (.tail _ (.tail _ (.tail _ (.tail _ (.head _))))))))))) iC nC ret)
    rintro _ h18 tk18 _ F18 N18 - - ⟨tP, rfl, rfl⟩
    dsimp only [List.nil_append] at N18
    (try dsimp only)
    (repeat' (first | (walk_at "mine stops"; (fail_if_success (with_reducible (first | (show wpAny _ _ (call (Value.builtin "sorted") _) _ _ _) | (show wpAny _ _ (compareOp _ (Value.ref _) (Value.ref _)) _ _ _) | (show wpAny _ _ (subscriptTail (Expr.Name (Str.ofString "hues") _) _ _ _) _ _ _) | (show wpAny _ _ (subscriptTail (Expr.Name (Str.ofString "row") _) _ _ _) _ _ _) | (show wpAny _ _ (binaryOp Operator.Add (Value.ref _) (Value.ref _)) _ _ _) | (show wpAny _ _ (call (Value.builtin "str.join") _) _ _ _)))); walk_at "mine step")))
    refine' call_use (dp := 320) (un := 1000) ?u1 ?u2 ?u3 ?u4 ?u5 ?v1 ?v2 ?v3 ?u6 ?u7 ?v4 ?v5 ?u8 ?_
    (case u1 => k_asm)
    (case u2 => k_asm)
    (case u3 => k_asm)
    (case u4 => k_asm)
    (case u5 => k_asm)
    (case v1 => exact rfl)
    (case v2 => exact rfl)
    (case v3 => exact rfl)
    (case v4 => exact rfl)
    (case v5 => exact rfl)
    (case u6 => exact Nat.le_of_ble_eq_true rfl)
    (case u7 => exact Nat.le_of_ble_eq_true rfl)
    (case u8 => exact fun G ret => c_lev (x := (stoodOf km s1).map (sgK km sm)) (y := (stoodOf km st).map (sgO km cm sm)) (mc := priceOf (stoodOf km s1) (stoodOf km st) cm) G (by rw [List.length_map]; exact T2.l) (by rw [List.length_map]; exact T2.l2) ret)
    rintro _ h19 tk19 _ F19 N19 - - ⟨tA, rfl, rfl⟩
    rw [dp1]
    dsimp only [List.nil_append] at N19
    (try dsimp only)
    (repeat' (first | (walk_at "mine stops"; (fail_if_success (with_reducible (first | (show wpAny _ _ (call (Value.builtin "sorted") _) _ _ _) | (show wpAny _ _ (compareOp _ (Value.ref _) (Value.ref _)) _ _ _) | (show wpAny _ _ (subscriptTail (Expr.Name (Str.ofString "hues") _) _ _ _) _ _ _) | (show wpAny _ _ (subscriptTail (Expr.Name (Str.ofString "row") _) _ _ _) _ _ _) | (show wpAny _ _ (binaryOp Operator.Add (Value.ref _) (Value.ref _)) _ _ _) | (show wpAny _ _ (call (Value.builtin "str.join") _) _ _ _)))); walk_at "mine step")))
    · exact absurd rfl ‹priceOf (stoodOf km s1) (stoodOf km st) cm ≠ priceOf (stoodOf km s1) (stoodOf km st) cm›
    refine' call_use (dp := 320) (un := 1000) ?u1 ?u2 ?u3 ?u4 ?u5 ?v1 ?v2 ?v3 ?u6 ?u7 ?v4 ?v5 ?u8 ?_
    (case u1 => k_asm)
    (case u2 => k_asm)
    (case u3 => k_asm)
    (case u4 => k_asm)
    (case u5 => k_asm)
    (case v1 => exact rfl)
    (case v2 => exact rfl)
    (case v3 => exact rfl)
    (case v4 => exact rfl)
    (case v5 => exact rfl)
    (case u6 => exact Nat.le_of_ble_eq_true rfl)
    (case u7 => exact Nat.le_of_ble_eq_true rfl)
    (case u8 => exact fun G ret => c_lev (x := (stoodOf km st).map (sgO km cm sm)) (y := (stoodOf km s1).map (sgK km sm)) (mc := priceOf (stoodOf km s1) (stoodOf km st) cm - 1) G (by rw [List.length_map]; exact T2.l2) (by rw [List.length_map]; exact T2.l) ret)
    rintro _ h20 tk20 _ F20 N20 - - ⟨tB, rfl, rfl⟩
    rw [dp2]
    dsimp only [List.nil_append] at N20
    (try dsimp only)
    (repeat' (first | (walk_at "mine stops"; (fail_if_success (with_reducible (first | (show wpAny _ _ (call (Value.builtin "sorted") _) _ _ _) | (show wpAny _ _ (compareOp _ (Value.ref _) (Value.ref _)) _ _ _) | (show wpAny _ _ (subscriptTail (Expr.Name (Str.ofString "hues") _) _ _ _) _ _ _) | (show wpAny _ _ (subscriptTail (Expr.Name (Str.ofString "row") _) _ _ _) _ _ _) | (show wpAny _ _ (binaryOp Operator.Add (Value.ref _) (Value.ref _)) _ _ _) | (show wpAny _ _ (call (Value.builtin "str.join") _) _ _ _)))); walk_at "mine step")))
    · exact absurd rfl ‹priceOf (stoodOf km s1) (stoodOf km st) cm ≠ priceOf (stoodOf km s1) (stoodOf km st) cm›
    refine ret h20 _ _ F20 hrow hfirst hstood fun p hp => N20 p ?_
    · revert hp
      intro hp
      rcases List.mem_cons.mp hp with rfl | hp
      · exact .tail _ (.tail _ (.tail _ (.tail _ (.tail _ (.head _)))))
      rcases List.mem_cons.mp hp with rfl | hp
      · exact .tail _ (.tail _ (.tail _ (.tail _ (.tail _ (.tail _ (.head _))))))
      rcases List.mem_cons.mp hp with rfl | hp
      · exact .tail _ (.tail _ (.tail _ (.tail _ (.tail _ (.tail _ (.tail _ (.head _)))))))
      rcases List.mem_cons.mp hp with rfl | hp
      · exact .tail _ (.tail _ (.tail _ (.tail _ (.tail _ (.tail _ (.tail _ (.tail _ (.head _))))))))
      rcases List.mem_cons.mp hp with rfl | hp
      · exact .tail _ (.tail _ (.tail _ (.tail _ (.tail _ (.tail _ (.tail _ (.tail _ (.tail _ (.head _)))))))))
      rcases List.mem_cons.mp hp with rfl | hp
      · exact .tail _ (.tail _ (.tail _ (.tail _ (.tail _ (.tail _ (.tail _ (.tail _ (.tail _ (.tail _ (.head _))))))))))
      rcases List.mem_cons.mp hp with rfl | hp
      · exact .tail _ (.tail _ (.tail _ (.tail _ (.tail _ (.tail _ (.tail _ (.tail _ (.tail _ (.tail _ (.tail _ (.head _)))))))))))
      rcases List.mem_cons.mp hp with rfl | hp
      · exact .tail _ (.tail _ (.tail _ (.tail _ (.tail _ (.tail _ (.tail _ (.tail _ (.tail _ (.tail _ (.tail _ (.tail _ (.head _))))))))))))
      rcases List.mem_cons.mp hp with rfl | hp
      · exact .tail _ (.tail _ (.tail _ (.tail _ (.tail _ (.tail _ (.tail _ (.tail _ (.tail _ (.tail _ (.tail _ (.tail _ (.tail _ (.head _)))))))))))))
      rcases List.mem_cons.mp hp with rfl | hp
      · exact .tail _ (.tail _ (.tail _ (.tail _ (.tail _ (.tail _ (.tail _ (.tail _ (.tail _ (.tail _ (.tail _ (.tail _ (.tail _ (.tail _ (.head _))))))))))))))
      rcases List.mem_cons.mp hp with rfl | hp
      · exact .tail _ (.tail _ (.tail _ (.tail _ (.tail _ (.tail _ (.tail _ (.tail _ (.tail _ (.tail _ (.tail _ (.tail _ (.tail _ (.tail _ (.tail _ (.head _)))))))))))))))
      rcases List.mem_cons.mp hp with rfl | hp
      · exact .tail _ (.tail _ (.tail _ (.tail _ (.tail _ (.tail _ (.tail _ (.tail _ (.tail _ (.tail _ (.tail _ (.tail _ (.tail _ (.tail _ (.tail _ (.tail _ (.head _))))))))))))))))
      rcases List.mem_cons.mp hp with rfl | hp
      · exact .tail _ (.tail _ (.tail _ (.tail _ (.tail _ (.tail _ (.tail _ (.tail _ (.tail _ (.tail _ (.tail _ (.tail _ (.tail _ (.tail _ (.tail _ (.tail _ (.tail _ (.head _)))))))))))))))))
      exact .tail _ (.tail _ (.tail _ (.tail _ (.tail _ (.tail _ (.tail _ (.tail _ (.tail _ (.tail _ (.tail _ (.tail _ (.tail _ (.tail _ (.tail _ (.tail _ (.tail _ (.tail _ (List.mem_append_right _ hp))))))))))))))))))
  · have hp2 : (Txt.splitMax (S ((rotR st).map (sgO km cm sm))) (Str.ofString "'") 2).length ≤ 2 := by rw [hsp, List.length_map]; omega
    have hil : (refsOf' inn).length = (piecesOf km st).length := by rw [List.length_map]; exact (paired_at pin).1.symm
    refine' call_use (dp := 320) (un := 1000) ?u1 ?u2 ?u3 ?u4 ?u5 ?v1 ?v2 ?v3 ?u6 ?u7 ?v4 ?v5 ?u8 ?_
    (case u1 => k_asm)
    (case u2 => k_asm)
    (case u3 => k_asm)
    (case u4 => k_asm)
    (case u5 => k_asm)
    (case v1 => exact rfl)
    (case v2 => exact rfl)
    (case v3 => exact rfl)
    (case v4 => exact rfl)
    (case v5 => exact rfl)
    (case u6 => exact Nat.le_of_ble_eq_true rfl)
    (case u7 => exact Nat.le_of_ble_eq_true rfl)
    (case u8 => exact fun G ret => c_dec1 G hxl hp2 ret)
    rintro _ h7 tk7 _ F7 N7 - - ⟨aX, w1, rfl, rfl⟩
    dsimp only [List.cons_append, List.nil_append] at N7
    (try dsimp only)
    (repeat' (first | (walk_at "mine stops"; (fail_if_success (with_reducible (first | (show wpAny _ _ (call (Value.builtin "sorted") _) _ _ _) | (show wpAny _ _ (compareOp _ (Value.ref _) (Value.ref _)) _ _ _) | (show wpAny _ _ (subscriptTail (Expr.Name (Str.ofString "hues") _) _ _ _) _ _ _) | (show wpAny _ _ (subscriptTail (Expr.Name (Str.ofString "row") _) _ _ _) _ _ _) | (show wpAny _ _ (binaryOp Operator.Add (Value.ref _) (Value.ref _)) _ _ _) | (show wpAny _ _ (call (Value.builtin "str.join") _) _ _ _)))); walk_at "mine step")))
    rename_i h8 F8 N8
    have X8 := X'.keeps F8.keep
    have T8 := T'.keeps F8.keep
    have hH8 : h8.IsList aH wH.toArray := News.isList N8 (.tail _ (.tail _ (.tail _ (.tail _ (.tail _ (.tail _ (.tail _ (.head _))))))))
    have hK8 : h8.IsList aO wO.toArray := News.isList N8 (.tail _ (.tail _ (.tail _ (.tail _ (.tail _ (.head _))))))
    have hCH8 : h8.IsCell (L + 1 + 1 + 1) (some (.ref aH)) := ⟨_, (N8 (L + 1 + 1 + 1, o3) (.tail _ (.tail _ (.tail _ (.tail _ (.tail _ (.tail _ (.tail _ (.tail _ (.tail _ (.tail _ (.tail _ (.tail _ (.head _)))))))))))))).1, d3⟩
    have hCK8 : h8.IsCell (L + 1 + 1 + 1 + 1 + 1) (some (.ref aO)) := ⟨_, (N8 (L + 1 + 1 + 1 + 1 + 1, o5) (.tail _ (.tail _ (.tail _ (.tail _ (.tail _ (.tail _ (.tail _ (.tail _ (.tail _ (.tail _ (.head _)))))))))))).1, d5⟩
    (try k_unmd)
    (try k_fold)
    refine wpAny_ListComp_free (cl := [(Str.ofString "others", L + 1 + 1 + 1 + 1 + 1), (Str.ofString "hues", L + 1 + 1 + 1)]) (fun _ => true) (fun v y => ∃ k : Nat, ∃ t t', v = .int (k : Int) t ∧ y = .str (S [(rowL (sgO km cm sm)).getD k 0]) t') ?c1 ?c2 ?c3 ?c4 ?c5 ?_ ?c6
    (case c1 => with_unfolding_all rfl)
    (case c2 => decide)
    (case c3 => with_unfolding_all rfl)
    (case c4 => decide)
    (case c5 => with_unfolding_all rfl)
    (case c6 => intro _; with_unfolding_all rfl)
    (repeat' (first | (walk_at "mine stops"; (fail_if_success (with_reducible (first | (show wpAny _ _ (call (Value.builtin "sorted") _) _ _ _) | (show wpAny _ _ (compareOp _ (Value.ref _) (Value.ref _)) _ _ _) | (show wpAny _ _ (subscriptTail (Expr.Name (Str.ofString "hues") _) _ _ _) _ _ _) | (show wpAny _ _ (subscriptTail (Expr.Name (Str.ofString "row") _) _ _ _) _ _ _) | (show wpAny _ _ (binaryOp Operator.Add (Value.ref _) (Value.ref _)) _ _ _) | (show wpAny _ _ (call (Value.builtin "str.join") _) _ _ _)))); walk_at "mine step")))
    rename_i h9 tk9 t9 u9 v9 hr9 F9 N9 kp9
    have hH9 : h9.IsList aH wH.toArray := stays_list kp9 hH8
    have hK9 : h9.IsList aO wO.toArray := stays_list kp9 hK8
    have hCH9 : h9.IsCell (L + 1 + 1 + 1) (some (.ref aH)) := hCH8.keeps kp9
    have hCK9 : h9.IsCell (L + 1 + 1 + 1 + 1 + 1) (some (.ref aO)) := hCK8.keeps kp9
    have X9 := X'.keeps F9.keep
    have T9 := T'.keeps F9.keep
    refine src_range (n := 8) rfl hr9 (by decide) ?_
    rintro it _ ⟨h₆, rfl⟩ Sr
    refine comp_evalT Sr ?_ ?_
    · rintro C i _ s₃ m₃ E' ⟨hi8, ti, rfl⟩ Fc hm
      have F10 := F9.grownK Fc.keep
      have N10 := N9.grown Fc.keep
      have hH10 : s₃.heap.IsList aH wH.toArray := stays_list Fc.keep hH9
      have hpl := plJ_bd (sm := sm) hi8
      have hkb := om_bd okK (sm := sm) hi8
      rw [← hcm, ← hom] at hkb
      obtain ⟨tH, hxH⟩ : ∃ tH, wH[i]? = some (.float (hueJ (plJ sm i)) tH) := by
        have hlt : i < wH.length := by omega
        obtain ⟨tH, h, hp⟩ := fH i wH[i] (by simp [hlt])
        exact ⟨tH, by simp [hlt, h]⟩
      (repeat' (first | (walk_at "mine stops"; (fail_if_success (with_reducible (first | (show wpAny _ _ (call (Value.builtin "sorted") _) _ _ _) | (show wpAny _ _ (compareOp _ (Value.ref _) (Value.ref _)) _ _ _) | (show wpAny _ _ (subscriptTail (Expr.Name (Str.ofString "hues") _) _ _ _) _ _ _) | (show wpAny _ _ (subscriptTail (Expr.Name (Str.ofString "row") _) _ _ _) _ _ _) | (show wpAny _ _ (binaryOp Operator.Add (Value.ref _) (Value.ref _)) _ _ _) | (show wpAny _ _ (call (Value.builtin "str.join") _) _ _ _)))); walk_at "mine step")))
      refine' item_fl ?z1 ?z2 ?z3 ?_ ?z4 ?z5
      (case z1 => exact hH10)
      (case z2 => exact hxH)
      (case z3 => exact hi8)
      (case z4 => with_unfolding_all rfl)
      (case z5 => intro _; with_unfolding_all rfl)
      (try dsimp only)
      (repeat' (first | (walk_at "mine stops"; (fail_if_success (with_reducible (first | (show wpAny _ _ (call (Value.builtin "sorted") _) _ _ _) | (show wpAny _ _ (compareOp _ (Value.ref _) (Value.ref _)) _ _ _) | (show wpAny _ _ (subscriptTail (Expr.Name (Str.ofString "hues") _) _ _ _) _ _ _) | (show wpAny _ _ (subscriptTail (Expr.Name (Str.ofString "row") _) _ _ _) _ _ _) | (show wpAny _ _ (binaryOp Operator.Add (Value.ref _) (Value.ref _)) _ _ _) | (show wpAny _ _ (call (Value.builtin "str.join") _) _ _ _)))); walk_at "mine step")))
      refine' call_use (dp := 400) (un := 2000) ?u1 ?u2 ?u3 ?u4 ?u5 ?v1 ?v2 ?v3 ?u6 ?u7 ?v4 ?v5 ?u8 ?_
      (case u1 => k_asm)
      (case u2 => k_asm)
      (case u3 => k_asm)
      (case u4 => k_asm)
      (case u5 => k_asm)
      (case v1 => exact rfl)
      (case v2 => exact rfl)
      (case v3 => exact rfl)
      (case v4 => exact rfl)
      (case v5 => exact rfl)
      (case u6 => exact Nat.le_of_ble_eq_true rfl)
      (case u7 => exact Nat.le_of_ble_eq_true rfl)
      (case u8 => exact fun G ret => c_sign G (hue_place hpl.1 hpl.2) hpl.1 hpl.2 hkb.1 hkb.2.1 ret)
      rintro _ h11 tk11 _ F11 N11 - st11 ⟨t11, rfl, rfl⟩
      (try k_unmd)
      (try k_unfold)
      (try dsimp only)
      exact CEnd.mk st11 ⟨i, _, _, rfl, congrArg (Value.str · _) (by rw [hom]; exact sign_rowO hi8)⟩
    intro aE kE ys h12 tk12 nE hE st12 nw12
    have hSg := row_strs hE
    obtain ⟨F12, N12, ne12⟩ := news_new F9 N9 st12 nw12
    dsimp only [List.cons_append, List.nil_append] at N12
    clear hE nw12 st12 Sr F9 N9 ne12
    (try dsimp only)
    (repeat' (first | (walk_at "mine stops"; (fail_if_success (with_reducible (first | (show wpAny _ _ (call (Value.builtin "sorted") _) _ _ _) | (show wpAny _ _ (compareOp _ (Value.ref _) (Value.ref _)) _ _ _) | (show wpAny _ _ (subscriptTail (Expr.Name (Str.ofString "hues") _) _ _ _) _ _ _) | (show wpAny _ _ (subscriptTail (Expr.Name (Str.ofString "row") _) _ _ _) _ _ _) | (show wpAny _ _ (binaryOp Operator.Add (Value.ref _) (Value.ref _)) _ _ _) | (show wpAny _ _ (call (Value.builtin "str.join") _) _ _ _)))); walk_at "mine step")))
    have hin : ∀ p ∈ inn, h12.get? p.1 = some p.2 := fun p hp => (N12 p (.tail _ (.tail _ (.tail _ (.tail _ (.tail _ (.tail _ (.tail _ (.tail _ (.tail _ (.tail _ (.tail _ (.tail _ (.tail _ (.tail _ (.tail _ (.tail _ (List.mem_append_left _ hp)))))))))))))))))).1
    refine' call_use (dp := 320) (un := 1000) ?u1 ?u2 ?u3 ?u4 ?u5 ?v1 ?v2 ?v3 ?u6 ?u7 ?v4 ?v5 ?u8 ?_
    (case u1 => k_asm)
    (case u2 => k_asm)
    (case u3 => k_asm)
    (case u4 => k_asm)
    (case u5 => k_asm)
    (case v1 => exact rfl)
    (case v2 => exact rfl)
    (case v3 => exact rfl)
    (case v4 => exact rfl)
    (case v5 => exact rfl)
    (case u6 => exact Nat.le_of_ble_eq_true rfl)
    (case u7 => exact Nat.le_of_ble_eq_true rfl)
    (case u8 => exact fun G ret => c_due (sg := rowL (sgO km cm sm)) (pcs := piecesOf km st) G (News.isList N12 (.head _)) nE hSg (News.isList N12 (.tail _ (.tail _ (.head _)))) hin pin (by omega) (pieces_mem st0.1) ret)
    rintro v13 h13 tk13 new13 F13 N13 - - ⟨-, p3⟩
    obtain ⟨aF, w2, rfl, rfl⟩ := p3 hp3
    dsimp only [List.cons_append, List.nil_append] at N13
    rw [hwp, hgl] at N13
    (try dsimp only)
    refine ne_whole (N13 _ (.tail _ (.tail _ (.head _)))).1 (N13 _ (.head _)).1 ?hu ?_
    (case hu => exact Nat.lt_of_le_of_lt (Nat.le_of_ble_eq_true rfl) room_1000)
    (try dsimp only)
    (repeat' (first | (walk_at "mine stops"; (fail_if_success (with_reducible (first | (show wpAny _ _ (call (Value.builtin "sorted") _) _ _ _) | (show wpAny _ _ (compareOp _ (Value.ref _) (Value.ref _)) _ _ _) | (show wpAny _ _ (subscriptTail (Expr.Name (Str.ofString "hues") _) _ _ _) _ _ _) | (show wpAny _ _ (subscriptTail (Expr.Name (Str.ofString "row") _) _ _ _) _ _ _) | (show wpAny _ _ (binaryOp Operator.Add (Value.ref _) (Value.ref _)) _ _ _) | (show wpAny _ _ (call (Value.builtin "str.join") _) _ _ _)))); walk_at "mine step")))
    refine' call_use (dp := 320) (un := 1000) ?u1 ?u2 ?u3 ?u4 ?u5 ?v1 ?v2 ?v3 ?u6 ?u7 ?v4 ?v5 ?u8 ?_
    (case u1 => k_asm)
    (case u2 => k_asm)
    (case u3 => k_asm)
    (case u4 => k_asm)
    (case u5 => k_asm)
    (case v1 => exact rfl)
    (case v2 => exact rfl)
    (case v3 => exact rfl)
    (case v4 => exact rfl)
    (case v5 => exact rfl)
    (case u6 => exact Nat.le_of_ble_eq_true rfl)
    (case u7 => exact Nat.le_of_ble_eq_true rfl)
    (case u8 => exact fun G ret => c_shown_t (z := S ((rotR st).map (sgO km cm sm))) (t3 := w1) G ⟨_, (N13 _ (.tail _ (.tail _ (.head _)))).1, rfl, 0, rfl⟩ ret)
    rintro _ h14 tk14 _ F14 N14 - - ⟨tF, rfl, rfl⟩
    dsimp only [List.nil_append] at N14
    rw [← stood_other hp3]
    (try dsimp only)
    (repeat' (first | (walk_at "mine stops"; (fail_if_success (with_reducible (first | (show wpAny _ _ (call (Value.builtin "sorted") _) _ _ _) | (show wpAny _ _ (compareOp _ (Value.ref _) (Value.ref _)) _ _ _) | (show wpAny _ _ (subscriptTail (Expr.Name (Str.ofString "hues") _) _ _ _) _ _ _) | (show wpAny _ _ (subscriptTail (Expr.Name (Str.ofString "row") _) _ _ _) _ _ _) | (show wpAny _ _ (binaryOp Operator.Add (Value.ref _) (Value.ref _)) _ _ _) | (show wpAny _ _ (call (Value.builtin "str.join") _) _ _ _)))); walk_at "mine step")))
    rename_i h16 F16 N16
    have hin2 : ∀ p ∈ inn, h16.get? p.1 = some p.2 := fun p hp => (N16 p (.tail _ (.tail _ (.tail _ (.tail _ (.tail _ (.tail _ (.tail _ (.tail _ (.tail _ (.tail _ (.tail _ (.tail _ (.tail _ (.tail _ (.tail _ (.tail _ (.tail _ (List.mem_append_left _ hp))))))))))))))))))).1
    refine' call_use (dp := 320) (un := 1000) ?u1 ?u2 ?u3 ?u4 ?u5 ?v1 ?v2 ?v3 ?u6 ?u7 ?v4 ?v5 ?u8 ?_
    (case u1 => k_asm)
    (case u2 => k_asm)
    (case u3 => k_asm)
    (case u4 => k_asm)
    (case u5 => k_asm)
    (case v1 => exact rfl)
    (case v2 => exact rfl)
    (case v3 => exact rfl)
    (case v4 => exact rfl)
    (case v5 => exact rfl)
    (case u6 => exact Nat.le_of_ble_eq_true rfl)
    (case u7 => exact Nat.le_of_ble_eq_true rfl)
    (case u8 => exact fun G ret => c_stood1 (vs := refsOf' inn) (st := st) G (News.isList N16 (.tail _ (.tail _ (.tail _ (.head _))))) (by rw [hil]; exact hp3) (by rw [hil]; omega) ret)
    rintro _ h15 tk15 _ F15 N15 - - ⟨aZ, nZ, wZ, rfl, rfl, iZ⟩
    replace iZ : IntsAre wZ (stoodOf km st) := by rw [stood_other hp3]; exact iZ
    dsimp only [List.cons_append, List.nil_append] at N15
    (try dsimp only)
    (repeat' (first | (walk_at "mine stops"; (fail_if_success (with_reducible (first | (show wpAny _ _ (call (Value.builtin "sorted") _) _ _ _) | (show wpAny _ _ (compareOp _ (Value.ref _) (Value.ref _)) _ _ _) | (show wpAny _ _ (subscriptTail (Expr.Name (Str.ofString "hues") _) _ _ _) _ _ _) | (show wpAny _ _ (subscriptTail (Expr.Name (Str.ofString "row") _) _ _ _) _ _ _) | (show wpAny _ _ (binaryOp Operator.Add (Value.ref _) (Value.ref _)) _ _ _) | (show wpAny _ _ (call (Value.builtin "str.join") _) _ _ _)))); walk_at "mine step")))
    refine' call_use (dp := 320) (un := 1000) ?u1 ?u2 ?u3 ?u4 ?u5 ?v1 ?v2 ?v3 ?u6 ?u7 ?v4 ?v5 ?u8 ?_
    (case u1 => k_asm)
    (case u2 => k_asm)
    (case u3 => k_asm)
    (case u4 => k_asm)
    (case u5 => k_asm)
    (case v1 => exact rfl)
    (case v2 => exact rfl)
    (case v3 => exact rfl)
    (case v4 => exact rfl)
    (case v5 => exact rfl)
    (case u6 => exact Nat.le_of_ble_eq_true rfl)
    (case u7 => exact Nat.le_of_ble_eq_true rfl)
    (case u8 => exact fun G ret => c_price (one := stoodOf km s1) (two := stoodOf km st) (ch := cm) G (N15 _ (.tail _ (.tail _ (.tail _ (.tail _ (.tail _ (.tail _ (.tail _ (.head _))))))))).1 iD T2.l T2.b (News.isList N15 (.head _)) iZ T2.l2 (News.isList N15 (.tail _ (.tail _ (.tail _ (.tail _ (.tail _ (.tail _ (.tail _ (.tail _ (.tail _ (.head _))))))))))) iC nC ret)
    rintro _ h18 tk18 _ F18 N18 - - ⟨tP, rfl, rfl⟩
    dsimp only [List.nil_append] at N18
    (try dsimp only)
    (repeat' (first | (walk_at "mine stops"; (fail_if_success (with_reducible (first | (show wpAny _ _ (call (Value.builtin "sorted") _) _ _ _) | (show wpAny _ _ (compareOp _ (Value.ref _) (Value.ref _)) _ _ _) | (show wpAny _ _ (subscriptTail (Expr.Name (Str.ofString "hues") _) _ _ _) _ _ _) | (show wpAny _ _ (subscriptTail (Expr.Name (Str.ofString "row") _) _ _ _) _ _ _) | (show wpAny _ _ (binaryOp Operator.Add (Value.ref _) (Value.ref _)) _ _ _) | (show wpAny _ _ (call (Value.builtin "str.join") _) _ _ _)))); walk_at "mine step")))
    refine' call_use (dp := 320) (un := 1000) ?u1 ?u2 ?u3 ?u4 ?u5 ?v1 ?v2 ?v3 ?u6 ?u7 ?v4 ?v5 ?u8 ?_
    (case u1 => k_asm)
    (case u2 => k_asm)
    (case u3 => k_asm)
    (case u4 => k_asm)
    (case u5 => k_asm)
    (case v1 => exact rfl)
    (case v2 => exact rfl)
    (case v3 => exact rfl)
    (case v4 => exact rfl)
    (case v5 => exact rfl)
    (case u6 => exact Nat.le_of_ble_eq_true rfl)
    (case u7 => exact Nat.le_of_ble_eq_true rfl)
    (case u8 => exact fun G ret => c_lev (x := (stoodOf km s1).map (sgK km sm)) (y := (stoodOf km st).map (sgO km cm sm)) (mc := priceOf (stoodOf km s1) (stoodOf km st) cm) G (by rw [List.length_map]; exact T2.l) (by rw [List.length_map]; exact T2.l2) ret)
    rintro _ h19 tk19 _ F19 N19 - - ⟨tA, rfl, rfl⟩
    rw [dp1]
    dsimp only [List.nil_append] at N19
    (try dsimp only)
    (repeat' (first | (walk_at "mine stops"; (fail_if_success (with_reducible (first | (show wpAny _ _ (call (Value.builtin "sorted") _) _ _ _) | (show wpAny _ _ (compareOp _ (Value.ref _) (Value.ref _)) _ _ _) | (show wpAny _ _ (subscriptTail (Expr.Name (Str.ofString "hues") _) _ _ _) _ _ _) | (show wpAny _ _ (subscriptTail (Expr.Name (Str.ofString "row") _) _ _ _) _ _ _) | (show wpAny _ _ (binaryOp Operator.Add (Value.ref _) (Value.ref _)) _ _ _) | (show wpAny _ _ (call (Value.builtin "str.join") _) _ _ _)))); walk_at "mine step")))
    · exact absurd rfl ‹priceOf (stoodOf km s1) (stoodOf km st) cm ≠ priceOf (stoodOf km s1) (stoodOf km st) cm›
    refine' call_use (dp := 320) (un := 1000) ?u1 ?u2 ?u3 ?u4 ?u5 ?v1 ?v2 ?v3 ?u6 ?u7 ?v4 ?v5 ?u8 ?_
    (case u1 => k_asm)
    (case u2 => k_asm)
    (case u3 => k_asm)
    (case u4 => k_asm)
    (case u5 => k_asm)
    (case v1 => exact rfl)
    (case v2 => exact rfl)
    (case v3 => exact rfl)
    (case v4 => exact rfl)
    (case v5 => exact rfl)
    (case u6 => exact Nat.le_of_ble_eq_true rfl)
    (case u7 => exact Nat.le_of_ble_eq_true rfl)
    (case u8 => exact fun G ret => c_lev (x := (stoodOf km st).map (sgO km cm sm)) (y := (stoodOf km s1).map (sgK km sm)) (mc := priceOf (stoodOf km s1) (stoodOf km st) cm - 1) G (by rw [List.length_map]; exact T2.l2) (by rw [List.length_map]; exact T2.l) ret)
    rintro _ h20 tk20 _ F20 N20 - - ⟨tB, rfl, rfl⟩
    rw [dp2]
    dsimp only [List.nil_append] at N20
    (try dsimp only)
    (repeat' (first | (walk_at "mine stops"; (fail_if_success (with_reducible (first | (show wpAny _ _ (call (Value.builtin "sorted") _) _ _ _) | (show wpAny _ _ (compareOp _ (Value.ref _) (Value.ref _)) _ _ _) | (show wpAny _ _ (subscriptTail (Expr.Name (Str.ofString "hues") _) _ _ _) _ _ _) | (show wpAny _ _ (subscriptTail (Expr.Name (Str.ofString "row") _) _ _ _) _ _ _) | (show wpAny _ _ (binaryOp Operator.Add (Value.ref _) (Value.ref _)) _ _ _) | (show wpAny _ _ (call (Value.builtin "str.join") _) _ _ _)))); walk_at "mine step")))
    · exact absurd rfl ‹priceOf (stoodOf km s1) (stoodOf km st) cm ≠ priceOf (stoodOf km s1) (stoodOf km st) cm›
    refine ret h20 _ _ F20 hrow hfirst hstood fun p hp => N20 p ?_
    · revert hp
      intro hp
      rcases List.mem_cons.mp hp with rfl | hp
      · exact .tail _ (.tail _ (.tail _ (.tail _ (.tail _ (.head _)))))
      rcases List.mem_cons.mp hp with rfl | hp
      · exact .tail _ (.tail _ (.tail _ (.tail _ (.tail _ (.tail _ (.head _))))))
      rcases List.mem_cons.mp hp with rfl | hp
      · exact .tail _ (.tail _ (.tail _ (.tail _ (.tail _ (.tail _ (.tail _ (.head _)))))))
      rcases List.mem_cons.mp hp with rfl | hp
      · exact .tail _ (.tail _ (.tail _ (.tail _ (.tail _ (.tail _ (.tail _ (.tail _ (.head _))))))))
      rcases List.mem_cons.mp hp with rfl | hp
      · exact .tail _ (.tail _ (.tail _ (.tail _ (.tail _ (.tail _ (.tail _ (.tail _ (.tail _ (.head _)))))))))
      rcases List.mem_cons.mp hp with rfl | hp
      · exact .tail _ (.tail _ (.tail _ (.tail _ (.tail _ (.tail _ (.tail _ (.tail _ (.tail _ (.tail _ (.head _))))))))))
      rcases List.mem_cons.mp hp with rfl | hp
      · exact .tail _ (.tail _ (.tail _ (.tail _ (.tail _ (.tail _ (.tail _ (.tail _ (.tail _ (.tail _ (.tail _ (.head _)))))))))))
      rcases List.mem_cons.mp hp with rfl | hp
      · exact .tail _ (.tail _ (.tail _ (.tail _ (.tail _ (.tail _ (.tail _ (.tail _ (.tail _ (.tail _ (.tail _ (.tail _ (.head _))))))))))))
      rcases List.mem_cons.mp hp with rfl | hp
      · exact .tail _ (.tail _ (.tail _ (.tail _ (.tail _ (.tail _ (.tail _ (.tail _ (.tail _ (.tail _ (.tail _ (.tail _ (.tail _ (.head _)))))))))))))
      rcases List.mem_cons.mp hp with rfl | hp
      · exact .tail _ (.tail _ (.tail _ (.tail _ (.tail _ (.tail _ (.tail _ (.tail _ (.tail _ (.tail _ (.tail _ (.tail _ (.tail _ (.tail _ (.head _))))))))))))))
      rcases List.mem_cons.mp hp with rfl | hp
      · exact .tail _ (.tail _ (.tail _ (.tail _ (.tail _ (.tail _ (.tail _ (.tail _ (.tail _ (.tail _ (.tail _ (.tail _ (.tail _ (.tail _ (.tail _ (.head _)))))))))))))))
      rcases List.mem_cons.mp hp with rfl | hp
      · exact .tail _ (.tail _ (.tail _ (.tail _ (.tail _ (.tail _ (.tail _ (.tail _ (.tail _ (.tail _ (.tail _ (.tail _ (.tail _ (.tail _ (.tail _ (.tail _ (.head _))))))))))))))))
      rcases List.mem_cons.mp hp with rfl | hp
      · exact .tail _ (.tail _ (.tail _ (.tail _ (.tail _ (.tail _ (.tail _ (.tail _ (.tail _ (.tail _ (.tail _ (.tail _ (.tail _ (.tail _ (.tail _ (.tail _ (.tail _ (.head _)))))))))))))))))
      exact .tail _ (.tail _ (.tail _ (.tail _ (.tail _ (.tail _ (.tail _ (.tail _ (.tail _ (.tail _ (.tail _ (.tail _ (.tail _ (.tail _ (.tail _ (.tail _ (.tail _ (.tail _ (List.mem_append_right _ hp))))))))))))))))))
end Mine
end

section
open PySem PySem.W PySem.Calls PyProof.Rows
namespace Mine
theorem law_elim2 {w : World} {name qual name' qual' : Str} {scope scope' : Scope} {cdv cdv' : Value} {body body' : List Stmt} {params : Arguments} {dV kV doc pm ct oc : Value} {an od : Option Addr} {osl : Array (Option Value)} (P : Str → Scope → Value → List Stmt → Prop) (h : IsLaw w name qual scope cdv body)
    (ho : (heapK w.params).lookup 109 = some ⟨oc, od, .func (fnOf name' qual' params body' scope' dV kV doc pm an cdv' ct), osl⟩) (hp : IsLaw w name' qual' scope' cdv' body' → P qual' scope' cdv' body') : P qual scope cdv body := by
  obtain ⟨oc, od, params, dV, kV, doc, pm, an, ct, osl, h⟩ := h
  have hh := h
  rw [h] at ho
  cases ho
  exact hp ⟨_, _, _, _, _, _, _, _, _, _, hh⟩

set_option maxRecDepth 100000 in
set_option maxHeartbeats 8000000 in
theorem law_r2 {w : World} {mean : ExcName → Option Value} {mg mb : Str → Option Value} {base h₀ : Heap} {L : Addr} {name qual : Str} {scope : Scope} {cdv : Value} {body : List Stmt} {s : Shared} {m : Str → Option Value} {Q : Flow → Shared → Prop} {E : Value → Shared → Prop}
    {aS aK aH aC aO aD aG : Addr} {kS kK kH kC kO kD kG : Nat} {wS wK wH wC wO wD wG : List Value} {sm km cm om : List Int} {o1 o2 o3 o4 o5 : Obj} {tups : List (Addr × Obj)} {s1 : Int} {tf : Tok}
    (hlaw : IsLaw w name qual scope cdv body) (B' : Below callerA base [] h₀) (X' : (heapK w.params).In h₀) (T' : TopV mean mg mb h₀)
    (d1 : o1.data = .cell (some (.ref aS))) (d2 : o2.data = .cell (some (.ref aK))) (d3 : o3.data = .cell (some (.ref aH))) (d4 : o4.data = .cell (some (.ref aC))) (d5 : o5.data = .cell (some (.ref aO)))
    (iS : IntsAre wS sm) (nS : sm.length = 8) (iK : IntsAre wK km) (okK : KOk km) (iC : IntsAre wC cm) (hcm : cm = chL km sm) (iO : IntsAre wO om) (hom : om = otL km cm) (fH : FlAre wH (fun k => hueJ (plJ sm k))) (nH : wH.length = 8)
    (s10 : 0 ≤ s1 ∧ s1 < 8) (iD : IntsAre wD (stoodOf km s1))
    (hfirst : m (Str.ofString "first") = some (.str (S ((stoodOf km s1).map (sgK km sm))) tf)) (hstood : m (Str.ofString "stood") = some (.ref aD)) (hagain : m (Str.ofString "again") = some (.ref aG))
    (F : Fr h₀ L s.heap m) (N : News h₀ L s.heap ((aD, listOf wD.toArray kD) :: (aG, listOf wG.toArray kG) :: (aO, listOf wO.toArray kO) :: (aC, listOf wC.toArray kC) :: (aH, listOf wH.toArray kH) :: (aK, listOf wK.toArray kK) :: (aS, listOf wS.toArray kS) :: (L + 1 + 1 + 1 + 1 + 1, o5) :: (L + 1 + 1 + 1 + 1, o4) :: (L + 1 + 1 + 1, o3) :: (L + 1 + 1, o2) :: (L + 1, o1) :: tups))
    (PG' : Pairs s.heap wG sm fun k => signS (plJ sm k) (om.getD k 0)) (inG : ∀ p ∈ wG, ∃ a o, p = .ref a ∧ (a, o) ∈ tups)
    (hE : PassesOwn (model PG w) (callerA.deeper (envOfC qual scope L 109 cdv)) (envOfC qual scope L 109 cdv) E)
    (fin : ∀ h' tk m', Fr h₀ L h' m' → Q (.ret (.bool true)) { s with heap := h', toks := tk }) :
    wpAny (model PG w) (callerA.deeper (envOfC qual scope L 109 cdv)) (execs (body.drop 15) (envOfC qual scope L 109 cdv)) Q E s := by
  w_on
  revert hE
  refine' law_elim2 (P := fun qual scope cdv body => PassesOwn (model PG w) (callerA.deeper (envOfC qual scope L 109 cdv)) (envOfC qual scope L 109 cdv) E → wpAny (model PG w) (callerA.deeper (envOfC qual scope L 109 cdv)) (execs (body.drop 15) (envOfC qual scope L 109 cdv)) Q E s) hlaw ?ho ?_
  (case ho => k_is)
  clear hlaw
  intro hlaw hE
  dsimp only [List.drop]
  have nK : km.length = 8 := okK.1
  (repeat' (first | (walk_at "mine stops"; (fail_if_success (with_reducible (first | (show wpAny _ _ (call (Value.builtin "sorted") _) _ _ _) | (show wpAny _ _ (compareOp _ (Value.ref _) (Value.ref _)) _ _ _) | (show wpAny _ _ (subscriptTail (Expr.Name (Str.ofString "hues") _) _ _ _) _ _ _) | (show wpAny _ _ (subscriptTail (Expr.Name (Str.ofString "row") _) _ _ _) _ _ _) | (show wpAny _ _ (binaryOp Operator.Add (Value.ref _) (Value.ref _)) _ _ _) | (show wpAny _ _ (call (Value.builtin "str.join") _) _ _ _)))); walk_at "mine step")))
  (try k_unmd)
  (try k_fold)
  refine wpAny_Assign_ListComp_free (cl := []) (fun _ => true) (fun v y => ∃ a x sg t u t', v = .ref a ∧ s.heap.get? a = some (tup2 x sg t u) ∧ y = .str sg t') ?c0 ?c1 ?c2 ?c3 ?c4 ?c5 ?c7 ?c8 ?_ ?c6
  (case c0 => with_unfolding_all rfl)
  (case c7 => with_unfolding_all rfl)
  (case c8 => with_unfolding_all rfl)
  (case c1 => with_unfolding_all rfl)
  (case c2 => decide)
  (case c3 => with_unfolding_all rfl)
  (case c4 => decide)
  (case c5 => with_unfolding_all rfl)
  (case c6 => intro _; with_unfolding_all rfl)
  (repeat' (first | (walk_at "mine stops"; (fail_if_success (with_reducible (first | (show wpAny _ _ (call (Value.builtin "sorted") _) _ _ _) | (show wpAny _ _ (compareOp _ (Value.ref _) (Value.ref _)) _ _ _) | (show wpAny _ _ (subscriptTail (Expr.Name (Str.ofString "hues") _) _ _ _) _ _ _) | (show wpAny _ _ (subscriptTail (Expr.Name (Str.ofString "row") _) _ _ _) _ _ _) | (show wpAny _ _ (binaryOp Operator.Add (Value.ref _) (Value.ref _)) _ _ _) | (show wpAny _ _ (call (Value.builtin "str.join") _) _ _ _)))); walk_at "mine step")))
  refine sorted8 (K := heapK w.params) F N (News.isList N (.tail _ (.head _))) X' (booked_none w) PG' (fun p hp => let ⟨a, o, h1, h2⟩ := inG p hp; ⟨a, o, h1, .tail _ (.tail _ (.tail _ (.tail _ (.tail _ (.tail _ (.tail _ (.tail _ (.tail _ (.tail _ (.tail _ (.tail _ (h2))))))))))))⟩) ?_
  intro aR0 c0 h1 F1 N1 lt1
  refine src_list rfl (News.isList N1 (.head _)) (by simp [sizeLine_eq]) ?_
  rintro it _ ⟨h2, rfl⟩ Sr
  obtain ⟨n8, pa, pt, pu, hp1, hp2⟩ := PG'
  have vals : ∀ j, j < 8 → (([7, 4, 1, 6, 3, 0, 5, 2] : List Nat).map fun i => wG.getD i Value.none)[j]? = some (.ref (pa (([7, 4, 1, 6, 3, 0, 5, 2] : List Nat).getD j 0))) := fun j hj => by
    have hq : ∀ j, j < 8 → (([7, 4, 1, 6, 3, 0, 5, 2] : List Nat).getD j 0) < 8 := by decide
    have hv := (hp1 _ (hq j hj)).1
    have hs : ∀ j, j < 8 → ([7, 4, 1, 6, 3, 0, 5, 2] : List Nat)[j]? = some (([7, 4, 1, 6, 3, 0, 5, 2] : List Nat).getD j 0) := by decide
    rw [List.getElem?_map, hs j hj]
    show some (wG.getD _ Value.none) = _
    rw [List.getD_eq_getElem?_getD, hv]; rfl
  refine comp_assignT Sr F1 N1 ?_ ?_
  · intro C i v s₃ m₃ E' hP Fc hm
    have hi8 : i < 8 := by
      have := (List.getElem?_eq_some_iff.mp hP).1
      simpa using this
    rw [vals i hi8] at hP
    cases hP
    have hq : ∀ j, j < 8 → (([7, 4, 1, 6, 3, 0, 5, 2] : List Nat).getD j 0) < 8 := by decide
    obtain ⟨hv1, hv2, hv3⟩ := hp1 _ (hq i hi8)
    obtain ⟨a', o', e', hm'⟩ := inG _ (List.mem_of_getElem? hv1)
    cases e'
    have g0 := (N _ (.tail _ (.tail _ (.tail _ (.tail _ (.tail _ (.tail _ (.tail _ (.tail _ (.tail _ (.tail _ (.tail _ (.tail _ (hm')))))))))))))).1
    rw [hv2] at g0
    cases g0
    have gt : IsTup s₃.heap (pa (([7, 4, 1, 6, 3, 0, 5, 2] : List Nat).getD i 0)) _ := ⟨_, Fc.keep _ _ (N1 _ (.tail _ (.tail _ (.tail _ (.tail _ (.tail _ (.tail _ (.tail _ (.tail _ (.tail _ (.tail _ (.tail _ (.tail _ (.tail _ (hm'))))))))))))))).1, rfl, 0, rfl⟩
    (repeat' (first | (walk_at "mine stops"; (fail_if_success (with_reducible (first | (show wpAny _ _ (call (Value.builtin "sorted") _) _ _ _) | (show wpAny _ _ (compareOp _ (Value.ref _) (Value.ref _)) _ _ _) | (show wpAny _ _ (subscriptTail (Expr.Name (Str.ofString "hues") _) _ _ _) _ _ _) | (show wpAny _ _ (subscriptTail (Expr.Name (Str.ofString "row") _) _ _ _) _ _ _) | (show wpAny _ _ (binaryOp Operator.Add (Value.ref _) (Value.ref _)) _ _ _) | (show wpAny _ _ (call (Value.builtin "str.join") _) _ _ _)))); walk_at "mine step")))
    exact CEnd.mk (fun _ _ e => e) ⟨_, _, _, _, _, _, rfl, hv2, rfl⟩
  intro aW kW wW h3 tk3 nW hW F3 N3 ne3
  have hR : ∀ (j : Nat) (y : Value), wW[j]? = some y → ∃ t, y = .str (S [(rowL (sgO km cm sm)).getD j 0]) t := fun j y hy => by
    have hj : j < 8 := by
      have := (List.getElem?_eq_some_iff.mp hy).1
      rw [nW] at this; simpa using this
    obtain ⟨v, hv, a, x, sg, t, u, t', rfl, e2, rfl⟩ := hW j y hy
    rw [vals j hj] at hv
    cases hv
    have hq : ∀ j, j < 8 → (([7, 4, 1, 6, 3, 0, 5, 2] : List Nat).getD j 0) < 8 := by decide
    have ho : ∀ j, j < 8 → ordL.getD (([7, 4, 1, 6, 3, 0, 5, 2] : List Nat).getD j 0) 0 = j := by decide
    have g := (hp1 _ (hq j hj)).2.1
    rw [ho j hj] at g
    rw [e2] at g
    cases g
    refine ⟨t', congrArg (Value.str · t') ?_⟩
    have hr := row_at (sgO km cm sm) (Int.natCast_nonneg j) (by omega : (j : Int) < 8)
    rw [Int.toNat_natCast] at hr
    rw [hom, signS_code, hr]; rfl
  clear hW Sr vals lt1 F1 N1 hp1 hp2
  (repeat' (first | (walk_at "mine stops"; (fail_if_success (with_reducible (first | (show wpAny _ _ (call (Value.builtin "sorted") _) _ _ _) | (show wpAny _ _ (compareOp _ (Value.ref _) (Value.ref _)) _ _ _) | (show wpAny _ _ (subscriptTail (Expr.Name (Str.ofString "hues") _) _ _ _) _ _ _) | (show wpAny _ _ (subscriptTail (Expr.Name (Str.ofString "row") _) _ _ _) _ _ _) | (show wpAny _ _ (binaryOp Operator.Add (Value.ref _) (Value.ref _)) _ _ _) | (show wpAny _ _ (call (Value.builtin "str.join") _) _ _ _)))); walk_at "mine step")))
  replace N3 : News h₀ L h3 ((aW, listOf wW.toArray kW) :: (aD, listOf wD.toArray kD) :: (aO, listOf wO.toArray kO) :: (aC, listOf wC.toArray kC) :: (aH, listOf wH.toArray kH) :: (aK, listOf wK.toArray kK) :: (aS, listOf wS.toArray kS) :: (L + 1 + 1 + 1 + 1 + 1, o5) :: (L + 1 + 1 + 1 + 1, o4) :: (L + 1 + 1 + 1, o3) :: (L + 1 + 1, o2) :: (L + 1, o1) :: tups) := fun p hp => N3 p (by
    rcases List.mem_cons.mp hp with rfl | hp
    · exact .head _
    rcases List.mem_cons.mp hp with rfl | hp
    · exact .tail _ (.tail _ (.head _))
    rcases List.mem_cons.mp hp with rfl | hp
    · exact .tail _ (.tail _ (.tail _ (.tail _ (.head _))))
    rcases List.mem_cons.mp hp with rfl | hp
    · exact .tail _ (.tail _ (.tail _ (.tail _ (.tail _ (.head _)))))
    rcases List.mem_cons.mp hp with rfl | hp
    · exact .tail _ (.tail _ (.tail _ (.tail _ (.tail _ (.tail _ (.head _))))))
    rcases List.mem_cons.mp hp with rfl | hp
    · exact .tail _ (.tail _ (.tail _ (.tail _ (.tail _ (.tail _ (.tail _ (.head _)))))))
    rcases List.mem_cons.mp hp with rfl | hp
    · exact .tail _ (.tail _ (.tail _ (.tail _ (.tail _ (.tail _ (.tail _ (.tail _ (.head _))))))))
    rcases List.mem_cons.mp hp with rfl | hp
    · exact .tail _ (.tail _ (.tail _ (.tail _ (.tail _ (.tail _ (.tail _ (.tail _ (.tail _ (.head _)))))))))
    rcases List.mem_cons.mp hp with rfl | hp
    · exact .tail _ (.tail _ (.tail _ (.tail _ (.tail _ (.tail _ (.tail _ (.tail _ (.tail _ (.tail _ (.head _))))))))))
    rcases List.mem_cons.mp hp with rfl | hp
    · exact .tail _ (.tail _ (.tail _ (.tail _ (.tail _ (.tail _ (.tail _ (.tail _ (.tail _ (.tail _ (.tail _ (.head _)))))))))))
    rcases List.mem_cons.mp hp with rfl | hp
    · exact .tail _ (.tail _ (.tail _ (.tail _ (.tail _ (.tail _ (.tail _ (.tail _ (.tail _ (.tail _ (.tail _ (.tail _ (.head _))))))))))))
    rcases List.mem_cons.mp hp with rfl | hp
    · exact .tail _ (.tail _ (.tail _ (.tail _ (.tail _ (.tail _ (.tail _ (.tail _ (.tail _ (.tail _ (.tail _ (.tail _ (.tail _ (.head _)))))))))))))
    exact .tail _ (.tail _ (.tail _ (.tail _ (.tail _ (.tail _ (.tail _ (.tail _ (.tail _ (.tail _ (.tail _ (.tail _ (.tail _ (.tail _ (hp))))))))))))))
    )
  have nW8 : wW.length = 8 := by rw [nW]; rfl
  clear ne3
  (try k_unmd)
  (try k_fold)
  refine For_invV h₀ ?f1 ?f2 ?_ ?f3 ?f4
  (case f1 => with_unfolding_all rfl)
  (case f2 => with_unfolding_all rfl)
  (case f3 => intro _; with_unfolding_all rfl)
  (case f4 => exact hE)
  (repeat' (first | (walk_at "mine stops"; (fail_if_success (with_reducible (first | (show wpAny _ _ (call (Value.builtin "sorted") _) _ _ _) | (show wpAny _ _ (compareOp _ (Value.ref _) (Value.ref _)) _ _ _) | (show wpAny _ _ (subscriptTail (Expr.Name (Str.ofString "hues") _) _ _ _) _ _ _) | (show wpAny _ _ (subscriptTail (Expr.Name (Str.ofString "row") _) _ _ _) _ _ _) | (show wpAny _ _ (binaryOp Operator.Add (Value.ref _) (Value.ref _)) _ _ _) | (show wpAny _ _ (call (Value.builtin "str.join") _) _ _ _)))); walk_at "mine step")))
  rename_i aX wX hX FX NX hIX _ _ lX
  replace NX : News h₀ L hX ((aW, listOf wW.toArray kW) :: (aD, listOf wD.toArray kD) :: (aO, listOf wO.toArray kO) :: (aC, listOf wC.toArray kC) :: (aH, listOf wH.toArray kH) :: (aK, listOf wK.toArray kK) :: (aS, listOf wS.toArray kS) :: (L + 1 + 1 + 1 + 1 + 1, o5) :: (L + 1 + 1 + 1 + 1, o4) :: (L + 1 + 1 + 1, o3) :: (L + 1 + 1, o2) :: (L + 1, o1) :: (aX, listOf wX.toArray 0) :: tups) := fun p hp => NX p (by
    rcases List.mem_cons.mp hp with rfl | hp
    · exact .tail _ (.head _)
    rcases List.mem_cons.mp hp with rfl | hp
    · exact .tail _ (.tail _ (.head _))
    rcases List.mem_cons.mp hp with rfl | hp
    · exact .tail _ (.tail _ (.tail _ (.head _)))
    rcases List.mem_cons.mp hp with rfl | hp
    · exact .tail _ (.tail _ (.tail _ (.tail _ (.head _))))
    rcases List.mem_cons.mp hp with rfl | hp
    · exact .tail _ (.tail _ (.tail _ (.tail _ (.tail _ (.head _)))))
    rcases List.mem_cons.mp hp with rfl | hp
    · exact .tail _ (.tail _ (.tail _ (.tail _ (.tail _ (.tail _ (.head _))))))
    rcases List.mem_cons.mp hp with rfl | hp
    · exact .tail _ (.tail _ (.tail _ (.tail _ (.tail _ (.tail _ (.tail _ (.head _)))))))
    rcases List.mem_cons.mp hp with rfl | hp
    · exact .tail _ (.tail _ (.tail _ (.tail _ (.tail _ (.tail _ (.tail _ (.tail _ (.head _))))))))
    rcases List.mem_cons.mp hp with rfl | hp
    · exact .tail _ (.tail _ (.tail _ (.tail _ (.tail _ (.tail _ (.tail _ (.tail _ (.tail _ (.head _)))))))))
    rcases List.mem_cons.mp hp with rfl | hp
    · exact .tail _ (.tail _ (.tail _ (.tail _ (.tail _ (.tail _ (.tail _ (.tail _ (.tail _ (.tail _ (.head _))))))))))
    rcases List.mem_cons.mp hp with rfl | hp
    · exact .tail _ (.tail _ (.tail _ (.tail _ (.tail _ (.tail _ (.tail _ (.tail _ (.tail _ (.tail _ (.tail _ (.head _)))))))))))
    rcases List.mem_cons.mp hp with rfl | hp
    · exact .tail _ (.tail _ (.tail _ (.tail _ (.tail _ (.tail _ (.tail _ (.tail _ (.tail _ (.tail _ (.tail _ (.tail _ (.head _))))))))))))
    rcases List.mem_cons.mp hp with rfl | hp
    · exact .head _
    exact .tail _ (.tail _ (.tail _ (.tail _ (.tail _ (.tail _ (.tail _ (.tail _ (.tail _ (.tail _ (.tail _ (.tail _ (.tail _ (hp)))))))))))))
    )
  refine iterJ_list (vs := wX) (lo := listOf wX.toArray 0) (n := 0) (fun i m news => m (Str.ofString "row") = some (.ref aW) ∧ m (Str.ofString "first") = some (.str (S ((stoodOf km s1).map (sgK km sm))) tf) ∧ m (Str.ofString "stood") = some (.ref aD) ∧ news = (aW, listOf wW.toArray kW) :: (aD, listOf wD.toArray kD) :: (aO, listOf wO.toArray kO) :: (aC, listOf wC.toArray kC) :: (aH, listOf wH.toArray kH) :: (aK, listOf wK.toArray kK) :: (aS, listOf wS.toArray kS) :: (L + 1 + 1 + 1 + 1 + 1, o5) :: (L + 1 + 1 + 1 + 1, o4) :: (L + 1 + 1 + 1, o3) :: (L + 1 + 1, o2) :: (L + 1, o1) :: (aX, listOf wX.toArray 0) :: tups) rfl FX NX rfl rfl ?_ ⟨rfl, hfirst, hstood, rfl⟩ ?_ ?_
  · rintro i m _ ⟨-, -, -, rfl⟩
    exact .tail _ (.tail _ (.tail _ (.tail _ (.tail _ (.tail _ (.tail _ (.tail _ (.tail _ (.tail _ (.tail _ (.tail _ (.head _))))))))))))
  · rintro I i v m₁ _ it h4 tk4 hv ⟨g1, g2, g3, rfl⟩ off F4 N4
    obtain ⟨num, tn, rfl, -⟩ := hIX.at i v hv
    refine law_turn2 hlaw B' X' T' d1 d2 d3 d4 d5 iS nS iK okK iC hcm iO hom fH nH s10 iD nW8 hR g1 g2 g3 F4 N4 ?_
    intro h5 tk5 m5 F5 k1 k2 k3 N5
    exact TurnPost.next F5 N5 (fun p hp => hp) off ⟨k1, k2, k3, rfl⟩
  · rintro m₁ _ h4 tk4 ⟨g1, g2, g3, rfl⟩ F4 N4
    (repeat' (first | (walk_at "mine stops"; (fail_if_success (with_reducible (first | (show wpAny _ _ (call (Value.builtin "sorted") _) _ _ _) | (show wpAny _ _ (compareOp _ (Value.ref _) (Value.ref _)) _ _ _) | (show wpAny _ _ (subscriptTail (Expr.Name (Str.ofString "hues") _) _ _ _) _ _ _) | (show wpAny _ _ (subscriptTail (Expr.Name (Str.ofString "row") _) _ _ _) _ _ _) | (show wpAny _ _ (binaryOp Operator.Add (Value.ref _) (Value.ref _)) _ _ _) | (show wpAny _ _ (call (Value.builtin "str.join") _) _ _ _)))); walk_at "mine step")))
    exact fin h4 _ m₁ F4
end Mine
end

section
open PySem PySem.W PySem.Calls PyProof.Rows
namespace Mine
/-- the pairs made so far, their tokens below tk -/
noncomputable def PA (i : Nat) (tups : List (Addr × Obj)) (ws : List Value) (sm : List Int) (sg : Nat → Str) (tk : Nat) : Prop :=
  ws.length = i ∧ ∃ (a : Nat → Addr) (t u : Nat → Tok), (∀ j, j < i → ws[j]? = some (.ref (a j)) ∧ (a j, tup2 (hueJ (plJ sm (ordL.getD j 0))) (sg (ordL.getD j 0)) (t j) (u j)) ∈ tups ∧ @LT.lt Nat _ 0 (t j) ∧ @LT.lt Nat _ (t j) tk) ∧
    ∀ j j', j < i → j' < i → j ≠ j' → @Ne Nat (t j) (t j')
theorem PA.zero {tups : List (Addr × Obj)} {sm : List Int} {sg : Nat → Str} {tk : Nat} : PA 0 tups [] sm sg tk :=
  ⟨rfl, fun _ => 0, fun _ => 0, fun _ => 0, fun j h => absurd h (Nat.not_lt_zero j), fun j j' h => absurd h (Nat.not_lt_zero j)⟩
theorem PA.mono {i : Nat} {tups tups' : List (Addr × Obj)} {ws : List Value} {sm : List Int} {sg : Nat → Str} {tk tk' : Nat} (h : PA i tups ws sm sg tk) (hs : ∀ p ∈ tups, p ∈ tups') (hk : tk ≤ tk') : PA i tups' ws sm sg tk' := by
  obtain ⟨h1, a, t, u, h2, h3⟩ := h
  exact ⟨h1, a, t, u, fun j hj => ⟨(h2 j hj).1, hs _ (h2 j hj).2.1, (h2 j hj).2.2.1, Nat.lt_of_lt_of_le (h2 j hj).2.2.2 hk⟩, h3⟩
theorem PA.step {i : Nat} {tups tups' : List (Addr × Obj)} {ws : List Value} {sm : List Int} {sg : Nat → Str} {tk tk' : Nat} {a1 : Addr} {t1 u1 : Tok} (h : PA i tups ws sm sg tk) (hs : ∀ p ∈ tups, p ∈ tups') (hm : (a1, tup2 (hueJ (plJ sm (ordL.getD i 0))) (sg (ordL.getD i 0)) t1 u1) ∈ tups')
    (hp : @LT.lt Nat _ 0 t1 ∧ @LE.le Nat _ tk t1 ∧ @LT.lt Nat _ t1 tk') : PA (i + 1) tups' (ws ++ [.ref a1]) sm sg tk' := by
  obtain ⟨h1, a, t, u, h2, h3⟩ := h
  refine ⟨by rw [List.length_append, h1]; rfl, fun j => if j = i then a1 else a j, fun j => if j = i then t1 else t j, fun j => if j = i then u1 else u j, fun j hj => ?_, fun j j' hj hj' hne => ?_⟩
  · by_cases e : j = i
    · subst e
      simp only [if_true]
      refine ⟨?_, hm, hp.1, hp.2.2⟩
      rw [← h1, List.getElem?_append_right (Nat.le_refl _), Nat.sub_self]; rfl
    · have hj' : j < i := by omega
      simp only [if_neg e]
      obtain ⟨g1, g2, g3, g4⟩ := h2 j hj'
      refine ⟨?_, hs _ g2, g3, ?_⟩
      · rw [List.getElem?_append_left (by omega)]; exact g1
      · have g4' : @LT.lt Nat _ (t j) tk := g4
        omega
  · by_cases e : j = i
    · subst e
      have g4 : @LT.lt Nat _ (t j') tk := (h2 j' (by omega)).2.2.2
      simp only [if_true, if_neg (Ne.symm hne)]
      show @Ne Nat t1 (t j')
      omega
    · by_cases e' : j' = i
      · subst e'
        have g4 : @LT.lt Nat _ (t j) tk := (h2 j (by omega)).2.2.2
        simp only [if_true, if_neg e]
        show @Ne Nat (t j) t1
        omega
      · simp only [if_neg e, if_neg e']
        exact h3 j j' (by omega) (by omega) hne
theorem PA.pairs {tups : List (Addr × Obj)} {ws : List Value} {sm : List Int} {sg : Nat → Str} {tk : Nat} {h : Heap} (P : PA 8 tups ws sm sg tk) (N : ∀ p ∈ tups, h.get? p.1 = some p.2) : Pairs h ws sm sg ∧ ∀ p ∈ ws, ∃ a o, p = .ref a ∧ (a, o) ∈ tups := by
  obtain ⟨h1, a, t, u, h2, h3⟩ := P
  refine ⟨⟨h1, a, t, u, fun i hi => ⟨(h2 i hi).1, N _ (h2 i hi).2.1, (h2 i hi).2.2.1⟩, fun i j hi hj hne => h3 i j hi hj hne⟩, fun p hp => ?_⟩
  obtain ⟨j, hj⟩ := List.mem_iff_getElem?.mp hp
  have hj8 : j < 8 := by have := (List.getElem?_eq_some_iff.mp hj).1; omega
  obtain ⟨g1, g2, -, -⟩ := h2 j hj8
  rw [g1] at hj; cases hj
  exact ⟨_, _, rfl, g2⟩
theorem ins2 {lit tups : List (Addr × Obj)} {p1 p2 : Addr × Obj} {P : Addr → Prop} (h : ∀ p ∈ lit ++ tups, P p.1) (h1 : P p1.1) (h2 : P p2.1) : ∀ p ∈ lit ++ (p1 :: p2 :: tups), P p.1 := fun p hp => by
  rcases List.mem_append.mp hp with hp | hp
  · exact h p (List.mem_append_left _ hp)
  · rcases List.mem_cons.mp hp with rfl | hp
    · exact h1
    · rcases List.mem_cons.mp hp with rfl | hp
      · exact h2
      · exact h p (List.mem_append_right _ hp)


set_option maxHeartbeats 2000000 in
theorem law_loop1 {w : World} {mean : ExcName → Option Value} {mg mb : Str → Option Value} {base h₀ : Heap} {L : Addr} {name qual : Str} {scope : Scope} {cdv : Value} {body : List Stmt} {s : Shared} {m : Str → Option Value} {Q : Flow → Shared → Prop} {E : Value → Shared → Prop}
    {aS aK aH aC aO aN aG aX : Addr} {kS kK kH kC kO : Nat} {wS wK wH wC wO vs : List Value} {sm km cm om : List Int} {o1 o2 o3 o4 o5 : Obj}
    (hlaw : IsLaw w name qual scope cdv body) (B' : Below callerA base [] h₀) (X' : (heapK w.params).In h₀) (T' : TopV mean mg mb h₀)
    (d1 : o1.data = .cell (some (.ref aS))) (d2 : o2.data = .cell (some (.ref aK))) (d3 : o3.data = .cell (some (.ref aH))) (d4 : o4.data = .cell (some (.ref aC))) (d5 : o5.data = .cell (some (.ref aO)))
    (iS : IntsAre wS sm) (nS : sm.length = 8) (iK : IntsAre wK km) (okK : KOk km) (iC : IntsAre wC cm) (hcm : cm = chL km sm) (iO : IntsAre wO om) (hom : om = otL km cm) (fH : FlAre wH (fun k => hueJ (plJ sm k))) (nH : wH.length = 8)
    (n8 : vs.length = 8) (hvs : ∀ (i : Nat) (v : Value), vs[i]? = some v → i < 8 ∧ ∃ t, v = .int ((ordL.getD i 0 : Nat) : Int) t)
    (hseen : m (Str.ofString "seen") = some (.ref aN)) (hagain : m (Str.ofString "again") = some (.ref aG))
    (F : Fr h₀ L s.heap m) (N : News h₀ L s.heap ((aX, listOf vs.toArray 0) :: (aG, listOf ([] : List Value).toArray 0) :: (aN, listOf ([] : List Value).toArray 0) :: (aO, listOf wO.toArray kO) :: (aC, listOf wC.toArray kC) :: (aH, listOf wH.toArray kH) :: (aK, listOf wK.toArray kK) :: (aS, listOf wS.toArray kS) :: (L + 1 + 1 + 1 + 1 + 1, o5) :: (L + 1 + 1 + 1 + 1, o4) :: (L + 1 + 1 + 1, o3) :: (L + 1 + 1, o2) :: (L + 1, o1) :: []))
    (neN : ∀ p ∈ [(aO, listOf wO.toArray kO), (aC, listOf wC.toArray kC), (aH, listOf wH.toArray kH), (aK, listOf wK.toArray kK), (aS, listOf wS.toArray kS), (L + 1 + 1 + 1 + 1 + 1, o5), (L + 1 + 1 + 1 + 1, o4), (L + 1 + 1 + 1, o3), (L + 1 + 1, o2), (L + 1, o1)] ++ [(aX, listOf vs.toArray 0)], p.1 ≠ aN) (neG : ∀ p ∈ [(aO, listOf wO.toArray kO), (aC, listOf wC.toArray kC), (aH, listOf wH.toArray kH), (aK, listOf wK.toArray kK), (aS, listOf wS.toArray kS), (L + 1 + 1 + 1 + 1 + 1, o5), (L + 1 + 1 + 1 + 1, o4), (L + 1 + 1 + 1, o3), (L + 1 + 1, o2), (L + 1, o1)] ++ [(aX, listOf vs.toArray 0)], p.1 ≠ aG) (hNG : @Ne Nat aN aG)
    (done : ∀ m' h' tk (wN : List Value) kN (wG : List Value) kG (tups : List (Addr × Obj)), m' (Str.ofString "seen") = some (.ref aN) → m' (Str.ofString "again") = some (.ref aG) → Fr h₀ L h' m' → News h₀ L h' ((aG, listOf wG.toArray kG) :: (aN, listOf wN.toArray kN) :: (aO, listOf wO.toArray kO) :: (aC, listOf wC.toArray kC) :: (aH, listOf wH.toArray kH) :: (aK, listOf wK.toArray kK) :: (aS, listOf wS.toArray kS) :: (L + 1 + 1 + 1 + 1 + 1, o5) :: (L + 1 + 1 + 1 + 1, o4) :: (L + 1 + 1 + 1, o3) :: (L + 1 + 1, o2) :: (L + 1, o1) :: tups) →
      Pairs h' wN sm (fun k => signS (plJ sm k) (km.getD k 0)) → (∀ p ∈ wN, ∃ a o, p = .ref a ∧ (a, o) ∈ tups) → Pairs h' wG sm (fun k => signS (plJ sm k) (om.getD k 0)) → (∀ p ∈ wG, ∃ a o, p = .ref a ∧ (a, o) ∈ tups) → Q .next { s with heap := h', toks := tk }) :
    wpAny (model PG w) (callerA.deeper (envOfC qual scope L 109 cdv)) (pyIter (.ref aX)) (fun it s₂ => LoopAtT w (callerA.deeper (envOfC qual scope L 109 cdv)) h₀ (envOfC qual scope L 109 cdv) (Str.ofString "k") (forBody body 7) Q E it s₂) E s := by
  have nK : km.length = 8 := okK.1
  have nO : om.length = 8 := by rw [hom]; rfl
  have N0 : News h₀ L s.heap ((aG, listOf ([] : List Value).toArray 0) :: (aN, listOf ([] : List Value).toArray 0) :: (aO, listOf wO.toArray kO) :: (aC, listOf wC.toArray kC) :: (aH, listOf wH.toArray kH) :: (aK, listOf wK.toArray kK) :: (aS, listOf wS.toArray kS) :: (L + 1 + 1 + 1 + 1 + 1, o5) :: (L + 1 + 1 + 1 + 1, o4) :: (L + 1 + 1 + 1, o3) :: (L + 1 + 1, o2) :: (L + 1, o1) :: [(aX, listOf vs.toArray 0)]) := fun p hp => N p (by
    rcases List.mem_cons.mp hp with rfl | hp
    · exact .tail _ (.head _)
    rcases List.mem_cons.mp hp with rfl | hp
    · exact .tail _ (.tail _ (.head _))
    rcases List.mem_cons.mp hp with rfl | hp
    · exact .tail _ (.tail _ (.tail _ (.head _)))
    rcases List.mem_cons.mp hp with rfl | hp
    · exact .tail _ (.tail _ (.tail _ (.tail _ (.head _))))
    rcases List.mem_cons.mp hp with rfl | hp
    · exact .tail _ (.tail _ (.tail _ (.tail _ (.tail _ (.head _)))))
    rcases List.mem_cons.mp hp with rfl | hp
    · exact .tail _ (.tail _ (.tail _ (.tail _ (.tail _ (.tail _ (.head _))))))
    rcases List.mem_cons.mp hp with rfl | hp
    · exact .tail _ (.tail _ (.tail _ (.tail _ (.tail _ (.tail _ (.tail _ (.head _)))))))
    rcases List.mem_cons.mp hp with rfl | hp
    · exact .tail _ (.tail _ (.tail _ (.tail _ (.tail _ (.tail _ (.tail _ (.tail _ (.head _))))))))
    rcases List.mem_cons.mp hp with rfl | hp
    · exact .tail _ (.tail _ (.tail _ (.tail _ (.tail _ (.tail _ (.tail _ (.tail _ (.tail _ (.head _)))))))))
    rcases List.mem_cons.mp hp with rfl | hp
    · exact .tail _ (.tail _ (.tail _ (.tail _ (.tail _ (.tail _ (.tail _ (.tail _ (.tail _ (.tail _ (.head _))))))))))
    rcases List.mem_cons.mp hp with rfl | hp
    · exact .tail _ (.tail _ (.tail _ (.tail _ (.tail _ (.tail _ (.tail _ (.tail _ (.tail _ (.tail _ (.tail _ (.head _)))))))))))
    rcases List.mem_cons.mp hp with rfl | hp
    · exact .tail _ (.tail _ (.tail _ (.tail _ (.tail _ (.tail _ (.tail _ (.tail _ (.tail _ (.tail _ (.tail _ (.tail _ (.head _))))))))))))
    rcases List.mem_cons.mp hp with rfl | hp
    · exact .head _
    cases hp
    )
  refine iterT_list (vs := vs) (lo := listOf vs.toArray 0) (n := 0) (fun i m news tk => m (Str.ofString "seen") = some (.ref aN) ∧ m (Str.ofString "again") = some (.ref aG) ∧ ∃ (wN : List Value) (kN : Nat) (wG : List Value) (kG : Nat) (tups : List (Addr × Obj)), news = (aG, listOf wG.toArray kG) :: (aN, listOf wN.toArray kN) :: (aO, listOf wO.toArray kO) :: (aC, listOf wC.toArray kC) :: (aH, listOf wH.toArray kH) :: (aK, listOf wK.toArray kK) :: (aS, listOf wS.toArray kS) :: (L + 1 + 1 + 1 + 1 + 1, o5) :: (L + 1 + 1 + 1 + 1, o4) :: (L + 1 + 1 + 1, o3) :: (L + 1 + 1, o2) :: (L + 1, o1) :: tups ∧ (aX, listOf vs.toArray 0) ∈ tups ∧
    (∀ p ∈ [(aO, listOf wO.toArray kO), (aC, listOf wC.toArray kC), (aH, listOf wH.toArray kH), (aK, listOf wK.toArray kK), (aS, listOf wS.toArray kS), (L + 1 + 1 + 1 + 1 + 1, o5), (L + 1 + 1 + 1 + 1, o4), (L + 1 + 1 + 1, o3), (L + 1 + 1, o2), (L + 1, o1)] ++ tups, p.1 ≠ aN) ∧ (∀ p ∈ [(aO, listOf wO.toArray kO), (aC, listOf wC.toArray kC), (aH, listOf wH.toArray kH), (aK, listOf wK.toArray kK), (aS, listOf wS.toArray kS), (L + 1 + 1 + 1 + 1 + 1, o5), (L + 1 + 1 + 1 + 1, o4), (L + 1 + 1 + 1, o3), (L + 1 + 1, o2), (L + 1, o1)] ++ tups, p.1 ≠ aG) ∧ PA i tups wN sm (fun k => signS (plJ sm k) (km.getD k 0)) tk ∧ PA i tups wG sm (fun k => signS (plJ sm k) (om.getD k 0)) tk) rfl F N0 (.tail _ (.tail _ (.tail _ (.tail _ (.tail _ (.tail _ (.tail _ (.tail _ (.tail _ (.tail _ (.tail _ (.tail _ (.head _))))))))))))) rfl rfl ?hlp ⟨hseen, hagain, [], 0, [], 0, [(aX, listOf vs.toArray 0)], rfl, .head _, neN, neG, PA.zero, PA.zero⟩ ?mono ?turn ?done
  case hlp =>
    rintro i m news tk ⟨-, -, wN, kN, wG, kG, tups, rfl, hx, -⟩
    exact .tail _ (.tail _ (.tail _ (.tail _ (.tail _ (.tail _ (.tail _ (.tail _ (.tail _ (.tail _ (.tail _ (.tail _ (hx))))))))))))
  case mono =>
    rintro i m news tk tk' ⟨g1, g2, wN, kN, wG, kG, tups, rfl, hx, g3, g4, p1, p2⟩ hk
    exact ⟨g1, g2, wN, kN, wG, kG, tups, rfl, hx, g3, g4, p1.mono (fun _ h => h) hk, p2.mono (fun _ h => h) hk⟩
  case turn =>
    rintro I i v m₁ _ it h tk hv ⟨g1, g2, wN, kN, wG, kG, tups, rfl, hx, g3, g4, p1, p2⟩ off F1 N1
    obtain ⟨hi8, t, rfl⟩ := hvs i v hv
    have hk8 : ordL.getD i 0 < 8 := ordL_lt i hi8
    have ob := om_bd okK (sm := sm) hk8
    rw [← hcm, ← hom] at ob
    refine law_turn (cm := cm) hlaw B' X' T' d1 d2 d3 d5 iS nS iK nK iO nO fH nH hk8 (km_bd okK hk8) ⟨ob.1, ob.2.1⟩ ob.2.2 g1 g2 F1 N1 (by rw [p1.1]; omega) (by rw [p2.1]; omega) g3 g4 hNG (Ne.symm (off _ (.tail _ (.head _)))) (Ne.symm (off _ (.head _))) ?_
    intro h' tk' m' a1 a2 u1 u2 u3 u4 q1 q2 F2 k1 k2 N2 e1 e2 e3 e4 e5 e6
    refine TurnEndT.mk F2 N2 (fun p hp => hp) ?_ ⟨k1, k2, _, _, _, _, _, rfl, .tail _ (.tail _ hx), ins2 (P := fun a => a ≠ aN) g3 e4 e1, ins2 (P := fun a => a ≠ aG) g4 e5 e2, p1.step (fun _ h => .tail _ (.tail _ h)) (.tail _ (.head _)) q2, p2.step (fun _ h => .tail _ (.tail _ h)) (.head _) q1⟩
    have o3 := ins2 (lit := [(aO, listOf wO.toArray kO), (aC, listOf wC.toArray kC), (aH, listOf wH.toArray kH), (aK, listOf wK.toArray kK), (aS, listOf wS.toArray kS), (L + 1 + 1 + 1 + 1 + 1, o5), (L + 1 + 1 + 1 + 1, o4), (L + 1 + 1 + 1, o3), (L + 1 + 1, o2), (L + 1, o1)]) (tups := tups) (p1 := (a2, tup2 (hueJ (plJ sm (ordL.getD i 0))) (signS (plJ sm (ordL.getD i 0)) (om.getD (ordL.getD i 0) 0)) u1 u2)) (p2 := (a1, tup2 (hueJ (plJ sm (ordL.getD i 0))) (signS (plJ sm (ordL.getD i 0)) (km.getD (ordL.getD i 0) 0)) u3 u4)) (P := fun a => a ≠ I) (fun p hp => off p (.tail _ (.tail _ hp))) e6 e3
    intro p hp
    rcases List.mem_cons.mp hp with rfl | hp
    · exact off (aG, listOf wG.toArray kG) (.head _)
    rcases List.mem_cons.mp hp with rfl | hp
    · exact off (aN, listOf wN.toArray kN) (.tail _ (.head _))
    exact o3 p hp
  case done =>
    rintro m₁ _ h tk ⟨g1, g2, wN, kN, wG, kG, tups, rfl, hx, g3, g4, p1, p2⟩ F1 N1
    rw [n8] at p1 p2
    have ht : ∀ p ∈ tups, h.get? p.1 = some p.2 := fun p hp => (N1 p (.tail _ (.tail _ (.tail _ (.tail _ (.tail _ (.tail _ (.tail _ (.tail _ (.tail _ (.tail _ (.tail _ (.tail _ (hp)))))))))))))).1
    obtain ⟨r1, r2⟩ := p1.pairs ht
    obtain ⟨r3, r4⟩ := p2.pairs ht
    exact done m₁ h tk wN kN wG kG tups g1 g2 F1 N1 r1 r2 r3 r4
end Mine
end

section
open PySem PySem.W PySem.Calls PyProof.Rows
namespace Mine
theorem call_law {w : World} {A : Around} {s : Shared} {base : Heap} {envs : List Env} {mg mb : Str → Option Value} {mean : ExcName → Option Value}
  {R : Result → Shared → Prop} {name qual : Str} {params : Arguments} {body : List Stmt} {scope : Scope} {dV kV doc pm cdv ct oc : Value} {an od : Option Addr} {osl : Array (Option Value)} {args : Args} {binds : List (Str × Value)}
    (G : Gr w mean mg mb A base envs s.heap)
    (ho : (heapK w.params).lookup 109 = some ⟨oc, od, .func (fnOf name qual params body scope dV kV doc pm an cdv ct), osl⟩) (hcd : codeIn (heapK w.params) cdv qual = true) (hroom : A.depth < recursionLimit)
    (hbind : BindsTo s (fnOf name qual params body scope dV kV doc pm an cdv ct) args binds) (hkind : (binds.all fun y => scope.names.lookup y.1 == some .local || scope.names.lookup y.1 == some .cell) = true)
    (hnd : ((cellsFrom 0 scope.names []).map (·.1)).Nodup)
    (h : IsLaw w name qual scope cdv body → ∀ L' h₁ tk cells, Fr s.heap L' h₁ (bindL (envOfC qual scope L' 109 cdv).kindOf binds fun _ => none) → News s.heap L' h₁ cells →
      CellsAre (bindC (envOfC qual scope L' 109 cdv).kindOf binds fun _ => none) (cellsFrom (L' + 1) scope.names []) cells →
      wpAny (model PG w) (A.deeper (envOfC qual scope L' 109 cdv)) (execs body (envOfC qual scope L' 109 cdv))
        (fun fl s' => R (.ok (.ret (match fl with | .ret v => v | _ => .none))) s')
        (fun e s' => wpAny (model PG w) (A.deeper (envOfC qual scope L' 109 cdv)) (leaving (envOfC qual scope L' 109 cdv) e) (fun _ s'' => R (.error e) s'') (fun e' s'' => R (.error e') s'') s')
        { s with heap := h₁, toks := tk })
    (hco : scope.isCoroutine = false) (hgen : scope.isGenerator = false) (hk : scope.kind = .function) : codeAny (model PG w) A (.call (.ref 109) args) R s := by
  refine codeAny_call_function (fd := fnOf name qual params body scope dV kV doc pm an cdv ct) hroom (G.X _ _ ho) rfl hco hgen rfl (codeRec_of G.X hcd) (hbind _ _ _ _ ?_)
  refine wpAny_newFunctionEnv_cells hk (kindsX hkind _) fun env' he s' x => ?_
  subst he
  refine ⟨G.T.nolimit.keeps x.toInCall.keep, codeAny_func ?_⟩
  obtain ⟨h₁, tk, rfl, _⟩ := x.done
  have hk₁ := x.toInCall.keep
  obtain ⟨cells, NC, Y⟩ := Cl.news (h₀ := s.heap) (Nat.le_refl _) fun n c hm => ⟨x.cell n c (lookup_of_mem_nodup (cellsFrom_names scope.names 0 (s.heap.objs.size + 1) [] [] rfl ▸ hnd) hm), x.above n c hm⟩
  exact h ⟨_, _, _, _, _, _, _, _, _, _, ho⟩ s.heap.objs.size h₁ tk cells ⟨x.toInCall.ns, hk₁, Nat.le_refl _⟩ NC Y

theorem Pairs.move {h h' : Heap} {ws : List Value} {sm : List Int} {sg : Nat → Str} {tups : List (Addr × Obj)} (P : Pairs h ws sm sg) (hin : ∀ p ∈ ws, ∃ a o, p = .ref a ∧ (a, o) ∈ tups) (h1 : ∀ p ∈ tups, h.get? p.1 = some p.2) (h2 : ∀ p ∈ tups, h'.get? p.1 = some p.2) : Pairs h' ws sm sg := by
  obtain ⟨n8, a, t, u, g1, g2⟩ := P
  refine ⟨n8, a, t, u, fun i hi => ⟨(g1 i hi).1, ?_, (g1 i hi).2.2⟩, g2⟩
  obtain ⟨a', o, e, hm⟩ := hin _ (List.mem_of_getElem? (g1 i hi).1)
  cases e
  have e1 := h1 _ hm
  rw [(g1 i hi).2.1] at e1
  cases e1
  exact h2 _ hm
theorem forall11 {a1 a2 a3 a4 a5 a6 a7 a8 a9 a10 a11 : Addr} {b1 b2 b3 b4 b5 b6 b7 b8 b9 b10 b11 : Obj} {P : Addr → Prop} (h1 : P a1) (h2 : P a2) (h3 : P a3) (h4 : P a4) (h5 : P a5) (h6 : P a6) (h7 : P a7) (h8 : P a8) (h9 : P a9) (h10 : P a10) (h11 : P a11) :
    ∀ p ∈ [(a1, b1), (a2, b2), (a3, b3), (a4, b4), (a5, b5), (a6, b6), (a7, b7), (a8, b8), (a9, b9), (a10, b10)] ++ [(a11, b11)], P p.1 := by
  intro p hp
  simp only [List.cons_append, List.nil_append, List.mem_cons, List.not_mem_nil, or_false] at hp
  rcases hp with rfl | rfl | rfl | rfl | rfl | rfl | rfl | rfl | rfl | rfl | rfl <;> assumption
theorem disp8 {t0 t1 t2 t3 t4 t5 t6 t7 : Tok} : ∀ (i : Nat) (v : Value), [Value.int 5 t0, Value.int 2 t1, Value.int 7 t2, Value.int 4 t3, Value.int 1 t4, Value.int 6 t5, Value.int 3 t6, Value.int 0 t7][i]? = some v → i < 8 ∧ ∃ t, v = .int ((ordL.getD i 0 : Nat) : Int) t := by
  intro i v h
  match i, h with
  | 0, h => cases h; exact ⟨by decide, _, rfl⟩
  | 1, h => cases h; exact ⟨by decide, _, rfl⟩
  | 2, h => cases h; exact ⟨by decide, _, rfl⟩
  | 3, h => cases h; exact ⟨by decide, _, rfl⟩
  | 4, h => cases h; exact ⟨by decide, _, rfl⟩
  | 5, h => cases h; exact ⟨by decide, _, rfl⟩
  | 6, h => cases h; exact ⟨by decide, _, rfl⟩
  | 7, h => cases h; exact ⟨by decide, _, rfl⟩
  | n + 8, h => cases h
set_option maxRecDepth 100000 in
set_option maxHeartbeats 8000000 in
theorem c_law {w : World} {mean : ExcName → Option Value} {mg mb : Str → Option Value} {base : Heap} {s : Shared} {l : Addr} {vs : List Value} {ns : List Int} {R : Result → Shared → Prop}
    (G : Gr w mean mg mb callerA base [] s.heap) (hl : s.heap.IsList l vs.toArray) (hi : IntsAre vs ns) (hn : ns.length ≤ 63)
    (ret : ∀ h' tk, s.heap.StaysIn h' → R (.ok (.ret (.bool true))) { s with heap := h', toks := tk }) : codeAny (model PG w) callerA (.call (.ref 109) ⟨[.ref l], []⟩) R s := by
  w_on
  have B' := G.B
  have X' := G.X
  have T' := G.T
  refine' call_law G ?k6 ?k7 ?k8 ?k9 ?kB ?kD ?_ ?c2 ?c3 ?c4
  (case k6 => k_is)
  (case k7 => k_is)
  (case k8 => exact Nat.le_of_ble_eq_true rfl)
  (case k9 => exact BindsTo.of_eq rfl)
  (case kB => exact rfl)
  (case kD => decide +kernel)
  (case c2 => exact rfl)
  (case c3 => exact rfl)
  (case c4 => exact rfl)
  intro hlaw L' h' tk' cells' F' N' Y'
  k_cells Y'
  (try dsimp only)
  walk_at "mine go"
  refine' call_use (dp := 320) (un := 1000) ?u1 ?u2 ?u3 ?u4 ?u5 ?v1 ?v2 ?v3 ?u6 ?u7 ?v4 ?v5 ?u8 ?_
  (case u1 => k_asm)
  (case u2 => k_asm)
  (case u3 => k_asm)
  (case u4 => k_asm)
  (case u5 => k_asm)
  (case v1 => exact rfl)
  (case v2 => exact rfl)
  (case v3 => exact rfl)
  (case v4 => exact rfl)
  (case v5 => exact rfl)
  (case u6 => exact Nat.le_of_ble_eq_true rfl)
  (case u7 => exact Nat.le_of_ble_eq_true rfl)
  (case u8 => exact fun G ret => c_sums G (stays_list F'.keep hl) hi hn ret)
  rintro _ h1 tk1 _ F1 N1 hne1 - ⟨aS, kS, wS, sm, rfl, rfl, iS, nS⟩
  dsimp only [List.cons_append, List.nil_append] at N1
  (try dsimp only)
  obtain ⟨eS1, eS2, eS3, eS4, eS5⟩ := ne5 (a := aS) (hne1 _ (.head _)) (fun q hq => hq)
  clear hne1
  walk_at "mine go"
  rename_i h2 o2 F2 N2 d2
  refine' call_use (dp := 320) (un := 1000) ?u1 ?u2 ?u3 ?u4 ?u5 ?v1 ?v2 ?v3 ?u6 ?u7 ?v4 ?v5 ?u8 ?_
  (case u1 => k_asm)
  (case u2 => k_asm)
  (case u3 => k_asm)
  (case u4 => k_asm)
  (case u5 => k_asm)
  (case v1 => exact rfl)
  (case v2 => exact rfl)
  (case v3 => exact rfl)
  (case v4 => exact rfl)
  (case v5 => exact rfl)
  (case u6 => exact Nat.le_of_ble_eq_true rfl)
  (case u7 => exact Nat.le_of_ble_eq_true rfl)
  (case u8 => exact fun G ret => c_kinds G (News.isList N2 (.head _)) iS nS ret)
  rintro _ h3 tk3 _ F3 N3 hne3 - ⟨aK, kK, wK, km, rfl, rfl, iK, okK⟩
  have nK : km.length = 8 := okK.1
  dsimp only [List.cons_append, List.nil_append] at N3
  (try dsimp only)
  obtain ⟨eK1, eK2, eK3, eK4, eK5⟩ := ne5 (a := aK) (hne3 _ (.head _)) (fun q hq => .tail _ (hq))
  clear hne3
  walk_at "mine go"
  rename_i h4 o4 F4 N4 d4
  have hS4 : h4.IsList aS wS.toArray := News.isList N4 (.tail _ (.head _))
  have hC4 : h4.IsCell (L' + 1) (some (.ref aS)) := ⟨_, (N4 (L' + 1, o2) (.tail _ (.tail _ (.tail _ (.tail _ (.tail _ (.tail _ (.head _)))))))).1, d2⟩
  walk1
  (try k_unmd)
  (try k_fold)
  refine wpAny_ListComp_free (cl := [(Str.ofString "sums", L' + 1)]) (fun _ => true) (fun v y => ∃ k : Nat, ∃ t t', v = .int (k : Int) t ∧ y = .float (hueJ (plJ sm k)) t' ∧ @LT.lt Nat _ 0 t') ?c1 ?c2 ?c3 ?c4 ?c5 ?_ ?c6
  (case c1 => with_unfolding_all rfl)
  (case c2 => decide)
  (case c3 => with_unfolding_all rfl)
  (case c4 => decide)
  (case c5 => with_unfolding_all rfl)
  (case c6 => intro _; with_unfolding_all rfl)
  walk_at "mine go"
  rename_i h5 tk5 t5 u5 v5 hr5 F5 N5 kp5
  have hS5 : h5.IsList aS wS.toArray := stays_list kp5 hS4
  have hC5 : h5.IsCell (L' + 1) (some (.ref aS)) := hC4.keeps kp5
  refine src_range (n := 8) rfl hr5 (by decide) ?_
  rintro it _ ⟨h₆, rfl⟩ Sr
  refine comp_evalT Sr ?_ ?_
  · rintro C i _ s₃ m₃ E' ⟨hi8, t, rfl⟩ Fc hm
    walk_at "mine go"
    · exfalso
      have hb := Int.emod_nonneg (sm.getD i 0) (show (2 : Int) ≠ 0 by decide)
      have hb2 := Int.emod_lt_of_pos (sm.getD i 0) (show (0 : Int) < 2 by decide)
      have he := Int.fmod_eq_emod_of_nonneg (sm.getD i 0) (show (0 : Int) ≤ 2 by decide)
      have hc := ‹Float64.isInf _ = true›
      have hn := hue_fin (j := 2 * (i : Int) + (sm.getD i 0).fmod 2) (by omega) (by omega)
      have hc' : Float64.isInf (hueJ (2 * (i : Int) + (sm.getD i 0).fmod 2)) = true := hc
      rw [hn] at hc'; cases hc'
    · exact CEnd.mk (fun _ _ e => e) ⟨i, _, _, rfl, rfl, by (try dsimp only); omega⟩
  intro aH kH wH h7 tk7 nH hH st7 nw7
  have fH : FlAre wH (fun k => hueJ (plJ sm k)) := fun j y hy => by
    obtain ⟨v, ⟨hj, t, rfl⟩, k, t', t'', e1, rfl, e2⟩ := hH j y hy
    obtain ⟨rfl, -⟩ := nat_int_inj e1
    exact ⟨_, rfl, e2⟩
  obtain ⟨F7, N7, hne7⟩ := news_new F5 N5 st7 nw7
  dsimp only [List.cons_append, List.nil_append] at N7
  obtain ⟨eH1, eH2, eH3, eH4, eH5⟩ := ne5 (a := aH) (fun q hq => Ne.symm (hne7 q hq _ (.head _))) (fun q hq => .tail _ (.tail _ (hq)))
  clear hne7 hH nw7 st7 Sr F5 N5
  walk_at "mine go"
  rename_i h8 o8 F8 N8 d8
  have hS8 : h8.IsList aS wS.toArray := News.isList N8 (.tail _ (.tail _ (.head _)))
  have hK8 : h8.IsList aK wK.toArray := News.isList N8 (.tail _ (.head _))
  have hCS8 : h8.IsCell (L' + 1) (some (.ref aS)) := ⟨_, (N8 (L' + 1, o2) (.tail _ (.tail _ (.tail _ (.tail _ (.tail _ (.tail _ (.tail _ (.head _))))))))).1, d2⟩
  have hCK8 : h8.IsCell (L' + 1 + 1) (some (.ref aK)) := ⟨_, (N8 (L' + 1 + 1, o4) (.tail _ (.tail _ (.tail _ (.tail _ (.tail _ (.tail _ (.head _)))))))).1, d4⟩
  walk1
  (try k_unmd)
  (try k_fold)
  refine wpAny_ListComp_free (cl := [(Str.ofString "sums", L' + 1), (Str.ofString "kinds", L' + 1 + 1)]) (fun _ => true) (fun v y => ∃ k : Nat, ∃ t t', v = .int (k : Int) t ∧ y = .int (chF (km.getD k 0) (sm.getD k 0)) t') ?c1 ?c2 ?c3 ?c4 ?c5 ?_ ?c6
  (case c1 => with_unfolding_all rfl)
  (case c2 => decide)
  (case c3 => with_unfolding_all rfl)
  (case c4 => decide)
  (case c5 => with_unfolding_all rfl)
  (case c6 => intro _; with_unfolding_all rfl)
  walk_at "mine go"
  rename_i h9 tk9 t9 u9 v9 hr9 F9 N9 kp9
  have hS9 : h9.IsList aS wS.toArray := stays_list kp9 hS8
  have hK9 : h9.IsList aK wK.toArray := stays_list kp9 hK8
  have hCS9 : h9.IsCell (L' + 1) (some (.ref aS)) := hCS8.keeps kp9
  have hCK9 : h9.IsCell (L' + 1 + 1) (some (.ref aK)) := hCK8.keeps kp9
  refine src_range (n := 8) rfl hr9 (by decide) ?_
  rintro it _ ⟨h₆, rfl⟩ Sr
  refine comp_evalT Sr ?_ ?_
  · rintro C i _ s₃ m₃ E' ⟨hi8, t, rfl⟩ Fc hm
    walk_at "mine go"
    · exact CEnd.mk (fun _ _ e => e) ⟨i, _, _, rfl, congrArg (Value.int · _) (if_pos ‹km.getD ((i : Nat) : Int).toNat 0 = 2›).symm⟩
    · exact CEnd.mk (fun _ _ e => e) ⟨i, _, _, rfl, congrArg (Value.int · _) (if_neg ‹km.getD ((i : Nat) : Int).toNat 0 ≠ 2›).symm⟩
  intro aC kC wC h10 tk10 nC hC st10 nw10
  obtain ⟨cm, hcm⟩ : ∃ cm, cm = chL km sm := ⟨_, rfl⟩
  have nCm : cm.length = 8 := by rw [hcm]; rfl
  have iC : IntsAre wC cm := ints_of (by rw [nC, nCm]) fun j y n hy hn => by
    obtain ⟨v, ⟨hj, t, rfl⟩, k, t', t'', e1, rfl⟩ := hC j y hy
    obtain ⟨rfl, -⟩ := nat_int_inj e1
    rw [hcm, chL, List.getElem?_map, List.getElem?_range hj] at hn
    cases hn
    exact ⟨_, rfl⟩
  obtain ⟨F10, N10, hne10⟩ := news_new F9 N9 st10 nw10
  dsimp only [List.cons_append, List.nil_append] at N10
  obtain ⟨eC1, eC2, eC3, eC4, eC5⟩ := ne5 (a := aC) (fun q hq => Ne.symm (hne10 q hq _ (.head _))) (fun q hq => .tail _ (.tail _ (.tail _ (hq))))
  clear hne10 hC nw10 st10 Sr F9 N9
  walk_at "mine go"
  rename_i h11 o11 F11 N11 d11
  have hC11 : h11.IsList aC wC.toArray := News.isList N11 (.head _)
  have hK11 : h11.IsList aK wK.toArray := News.isList N11 (.tail _ (.tail _ (.head _)))
  have hCC11 : h11.IsCell (L' + 1 + 1 + 1 + 1) (some (.ref aC)) := ⟨_, (N11 (L' + 1 + 1 + 1 + 1, o11) (.tail _ (.tail _ (.tail _ (.tail _ (.tail _ (.head _))))))).1, d11⟩
  have hCK11 : h11.IsCell (L' + 1 + 1) (some (.ref aK)) := ⟨_, (N11 (L' + 1 + 1, o4) (.tail _ (.tail _ (.tail _ (.tail _ (.tail _ (.tail _ (.tail _ (.head _))))))))).1, d4⟩
  walk1
  (try k_unmd)
  (try k_fold)
  refine wpAny_ListComp_free (cl := [(Str.ofString "kinds", L' + 1 + 1), (Str.ofString "changed", L' + 1 + 1 + 1 + 1)]) (fun _ => true) (fun v y => ∃ k : Nat, ∃ t t', v = .int (k : Int) t ∧ y = .int (otF (km.getD k 0) (cm.getD k 0)) t') ?c1 ?c2 ?c3 ?c4 ?c5 ?_ ?c6
  (case c1 => with_unfolding_all rfl)
  (case c2 => decide)
  (case c3 => with_unfolding_all rfl)
  (case c4 => decide)
  (case c5 => with_unfolding_all rfl)
  (case c6 => intro _; with_unfolding_all rfl)
  walk_at "mine go"
  rename_i h12 tk12 t12 u12 v12 hr12 F12 N12 kp12
  have X12 := X'.keeps F12.keep
  have T12 := T'.keeps F12.keep
  have hC12 : h12.IsList aC wC.toArray := stays_list kp12 hC11
  have hK12 : h12.IsList aK wK.toArray := stays_list kp12 hK11
  have hCC12 : h12.IsCell (L' + 1 + 1 + 1 + 1) (some (.ref aC)) := hCC11.keeps kp12
  have hCK12 : h12.IsCell (L' + 1 + 1) (some (.ref aK)) := hCK11.keeps kp12
  refine src_range (n := 8) rfl hr12 (by decide) ?_
  rintro it _ ⟨h₆, rfl⟩ Sr
  refine comp_evalT Sr ?_ ?_
  · rintro C i _ s₃ m₃ E' ⟨hi8, t, rfl⟩ Fc hm
    walk_at "mine go"
    exact CEnd.mk (fun _ _ e => e) ⟨i, _, _, rfl, rfl⟩
  intro aO kO wO h13 tk13 nO hO st13 nw13
  obtain ⟨om, hom⟩ : ∃ om, om = otL km cm := ⟨_, rfl⟩
  have nOm : om.length = 8 := by rw [hom]; rfl
  have iO : IntsAre wO om := ints_of (by rw [nO, nOm]) fun j y n hy hn => by
    obtain ⟨v, ⟨hj, t, rfl⟩, k, t', t'', e1, rfl⟩ := hO j y hy
    obtain ⟨rfl, -⟩ := nat_int_inj e1
    rw [hom, otL, List.getElem?_map, List.getElem?_range hj] at hn
    cases hn
    exact ⟨_, rfl⟩
  obtain ⟨F13, N13, hne13⟩ := news_new F12 N12 st13 nw13
  dsimp only [List.cons_append, List.nil_append] at N13
  obtain ⟨eO1, eO2, eO3, eO4, eO5⟩ := ne5 (a := aO) (fun q hq => Ne.symm (hne13 q hq _ (.head _))) (fun q hq => .tail _ (.tail _ (.tail _ (.tail _ (hq)))))
  clear hne13 hO nw13 st13 Sr F12 N12
  walk_at "mine go"
  rename_i hq1 o14 d14 aN hq2 lN hq3 tkq aG hq4 lG h16 F16 N16
  (try k_unmd)
  (try k_fold)
  refine For_T s.heap ?f1 ?f2 ?_ ?f3 ?f4
  (case f1 => with_unfolding_all rfl)
  (case f2 => with_unfolding_all rfl)
  (case f3 => intro _; with_unfolding_all rfl)
  (case f4 => passes_own)
  walk_at "mine go"
  rename_i aX hX FX NX lX
  obtain ⟨n1, n2, n3, n4, n5, n6, n7, n8, n9, n10⟩ := lN
  obtain ⟨g0, g1, g2, g3, g4, g5, g6, g7, g8, g9, g10⟩ := lG
  obtain ⟨x1, x2, -⟩ := lX
  refine law_loop1 hlaw B' X' T' d2 d4 d8 d11 d14 iS nS iK okK iC hcm iO hom fH nH ?n8 ?hvs ?hs ?ha FX NX ?neN ?neG (Nat.ne_of_lt g0) ?_
  case neN => exact forall11 (P := fun a => a ≠ aN) (Nat.ne_of_lt n1) (Nat.ne_of_lt n2) (Nat.ne_of_lt n3) (Nat.ne_of_lt n4) (Nat.ne_of_lt n5) (Nat.ne_of_lt n6) (Nat.ne_of_lt n7) (Nat.ne_of_lt n8) (Nat.ne_of_lt n9) (Nat.ne_of_lt n10) (Nat.ne_of_gt x2)
  case neG => exact forall11 (P := fun a => a ≠ aG) (Nat.ne_of_lt g1) (Nat.ne_of_lt g2) (Nat.ne_of_lt g3) (Nat.ne_of_lt g4) (Nat.ne_of_lt g5) (Nat.ne_of_lt g6) (Nat.ne_of_lt g7) (Nat.ne_of_lt g8) (Nat.ne_of_lt g9) (Nat.ne_of_lt g10) (Nat.ne_of_gt x1)
  case n8 => rfl
  case hs => rfl
  case ha => rfl
  case hvs => exact disp8
  intro m1 h1 tk1 wN kN wG kG tups m1s m1a F1 N1 PN inN PG' inG
  (try k_unmd)
  k_unfold
  dsimp only
  have st0 : 0 ≤ ((sm.getD 0 0).fdiv 36).fmod 8 ∧ ((sm.getD 0 0).fdiv 36).fmod 8 < 8 := by rw [Int.fmod_eq_emod_of_nonneg _ (by decide)]; omega
  refine law_r1 hlaw B' X' T' d2 d4 d8 d11 d14 iS nS iK okK iC hcm iO hom fH nH m1s m1a F1 N1 PN inN ?_
  intro h2 tk2 m2 aD kD wD tf F2 m2f m2s m2a iD N2
  have PG2 := PG'.move inG (fun p hp => (N1 p (.tail _ (.tail _ (.tail _ (.tail _ (.tail _ (.tail _ (.tail _ (.tail _ (.tail _ (.tail _ (.tail _ (.tail _ (hp)))))))))))))).1) (fun p hp => (N2 p (.tail _ (.tail _ (.tail _ (.tail _ (.tail _ (.tail _ (.tail _ (.tail _ (.tail _ (.tail _ (.tail _ (.tail _ (hp)))))))))))))).1)
  refine law_r2 hlaw B' X' T' d2 d4 d8 d11 d14 iS nS iK okK iC hcm iO hom fH nH st0 iD m2f m2s m2a F2 N2 PG2 inG ?hE ?fin
  case hE => passes_own
  case fin =>
    intro h3 tk3 m3 F3
    exact ret h3 tk3 F3.keep
end Mine
end

open PySem PySem.W PySem.Calls PyProof.Rows
set_option maxRecDepth 100000 in
set_option maxHeartbeats 8000000 in
theorem PySem.Challenge.cw_re0067_01_holds : PySem.Challenge.rw_re0067_01.Holds := by
  refine Mine.hd (by rfl) (by rfl) (by rfl) ?_
  w_on
  k_fill
  intro w s₀ s₁ mg mb G Y fa o pm cd doc dV kV ho hd hcd hD hmg hg args vals as hpre hlay hrd hwl hlo
  have KX : (Mine.heapK w.params).In s₁.heap := Y
  have X := (Ground.X G).1
  have V := (Ground.X G).2
  refine Ground.open G ?_
  intro T B D TE TW
  have hfa : fa = 109 := by
    have e0 : nsIn (Mine.heapK w.params) mainGlobals (Str.ofString "law") = some (some (Value.ref 109)) := by k_is
    have e := mg_of KX T.g e0
    have e2 := hmg.symm.trans e
    cases e2
    rfl
  subst hfa
  wrow_args hpre hlay hrd hwl hlo
  all_goals (
    first | refine callC_kw (enter_call ?_) | refine enter_call ?_ | refine callC_kw (enter_callW ?_) | refine enter_callW ?_ | w_how
    w_top on
    try refine codeAny_mono ?_ (fun _ _ g => GoodW.toG g)
    have K0 := below_caller (Top.heap T)
    refine Mine.c_law (base := s₁.heap) ⟨K0, KX, T⟩ (by assumption) (by assumption) (by omega) ?_
    intro h' tk st
    exact ⟨.inl ⟨_, _, [], rfl, fun _ => by with_unfolding_all rfl, ReadsW.bool true, by with_unfolding_all rfl, fun _ => ⟨List.nodup_nil, fun a h => by cases h⟩⟩, st, rfl, hg⟩)
