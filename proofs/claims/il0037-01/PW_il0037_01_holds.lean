import PyProof.Rows.All
import Wide.All
import OpenK.AllK
import Wide.FinOn
import PySem.Challenge.RW_il0037_01
open PySem PySem.W PyProof.Rows
set_option Elab.async false
set_option linter.all false
namespace Mine
local macro_rules | `(tactic| walk_at $s:str) => `(tactic| k_extra $s)
/- The kit's command `open_top` writes the heap that stands behind the program's text as a definition. Asked for the row itself it proves the run piece by piece, with tables of words that make the compiled file 13 MB larger.
   Here it is asked for a row whose text reads one name ahead of the program's own: the name stands under an irreducible word, so no piece is found and the run is one check. The heap behind the text is the same, and the claim's own run (`left_ok`) is checked against it. -/
@[irreducible] def nm0 : PySem.Expr := PySem.Expr.Name (Str.ofString "__name__") ⟨0, 0, 0, 0⟩
def prog0 : PySem.Program := { PySem.Challenge.pw_il0037_01 with main := { PySem.Challenge.pw_il0037_01.main with body := PySem.Stmt.Expr nm0 ⟨0, 0, 0, 0⟩ :: PySem.Challenge.pw_il0037_01.main.body } }
def row0 : PySem.W.OpenLaw := { PySem.Challenge.rw_il0037_01 with prog := prog0 }
set_option maxRecDepth 100000 in
set_option maxHeartbeats 8000000 in
open_top hd for row0

/-- the names that the view leaves loose -/
abbrev looseN : List Str := [Str.ofString "escape", Str.ofString "unescape", Str.ofString "quoteattr", Str.ofString "bytes_types", Str.ofString "a2b_base64", Str.ofString "b2a_base64", Str.ofString "b64encode", Str.ofString "b64decode"]
noncomputable abbrev hookC : Hook := kHook hd.heap_39
  [2, 3, 15, 17, 18, 20, 21, 22, 24, 25, 27, 28, 29, 30, 31, 33, 34, 36, 37, 38, 39, 40, 42, 43, 45, 46, 47, 48, 49, 51, 52, 54, 55, 56, 57, 59, 60, 62, 63, 64, 71, 72, 73, 74, 77, 79, 80, 82, 83, 84, 86, 87, 89, 90, 91, 93, 94, 96, 97, 98, 100, 101, 103, 104, 105, 106, 108, 109, 111, 112, 113, 114, 116, 117, 119, 120, 121, 122, 124, 125, 127, 128, 129, 130, 132, 133, 135, 136, 137, 139, 140, 142, 143, 144, 147, 148, 149, 152, 153, 154, 157, 158, 159, 161, 162, 164, 165, 166, 169, 170, 171, 174, 175]
  (fun _ => by kernel_rfl)
abbrev rowW : RowW := PySem.Challenge.rw_il0037_01.row.toRowW
/-- the run of the claim's own text, from the start to its end -/
theorem left_ok : LeftO PySem.Challenge.rw_il0037_01.row.prog hd.view_39 looseN (fun s => xlAt hd.view_39 [] s && recOk (RowW.records rowW) s) (Hook.obs hookC) (Hook.val hookC) 1920 := fun w => by kernel_rfl
set_option maxRecDepth 100000 in
theorem law_said : PySem.Challenge.rw_il0037_01.wellSaid = true := by k_qdec
abbrev TopC (mean : ExcName → Option Value) (mg mb : Str → Option Value) (h : Heap) : Prop :=
  Top hd.view_39 (looseW hd.view_39 [Str.ofString "escape", Str.ofString "unescape", Str.ofString "quoteattr", Str.ofString "bytes_types",
        Str.ofString "a2b_base64", Str.ofString "b2a_base64", Str.ofString "b64encode", Str.ofString "b64decode"]) mean mg mb h

/-- the callee's ground is the whole heap at the call: all of it stays -/
abbrev Kept (h h' : Heap) : Prop := ∀ b o, h.get? b = some o → h'.get? b = some o

section
variable {prog : Program} {w : World} {A₀ A : Around} {s : Shared} {base h₀ : Heap} {outer : List Env} {L : Addr} {m : Str → Option Value} {env : Env} {K : Frag} {p : Program} {loose : List Str} {mean : ExcName → Option Value} {mg mb : Str → Option Value}
  {R : Result → Shared → Prop} {name qual : Str} {params : Arguments} {body : List Stmt} {scope : Scope} {dV kV doc pm cdv ct oc : Value} {an od : Option Addr} {osl : Array (Option Value)} {f : Addr} {args : Args} {binds : List (Str × Value)}

theorem ground0 (B : Below A₀ base outer h₀) (F : Fr h₀ L s.heap m) (hf : env.frame = some L) (hke : env.scope.kind = .function) (hA : A.frames = some (env :: outer)) : Below A base (env :: outer) s.heap := by
  have h := (pushX (env := env) B F hf hke)
  exact ⟨hA, h.stays, h.frames⟩

/-- a def without cells, entered upon the whole heap -/
theorem enter_plain (B : Below A₀ base outer h₀) (F : Fr h₀ L s.heap m) (X₀ : K.In h₀) (T : Top p loose mean mg mb h₀) (hA : A.frames = some (env :: outer)) (hf : env.frame = some L) (hke : env.scope.kind = .function)
    (ho : K.lookup f = some ⟨oc, od, .func (fnOf name qual params body scope dV kV doc pm an cdv ct), osl⟩) (hcd : codeIn K cdv qual = true) (hroom : A.depth < recursionLimit)
    (hbind : BindsTo s (fnOf name qual params body scope dV kV doc pm an cdv ct) args binds) (hloc : ∀ y ∈ binds, scope.names.lookup y.1 = some .local)
    (h : ∀ L' h₁, Fr s.heap L' h₁ (fun y => binds.reverse.lookup y) → News s.heap L' h₁ [] → Below A base (env :: outer) s.heap → K.In s.heap → Top p loose mean mg mb s.heap →
      wpAny (model prog w) (A.deeper (envOf qual scope L' f cdv)) (execs body (envOf qual scope L' f cdv))
        (fun fl s' => R (.ok (.ret (match fl with | .ret v => v | _ => .none))) s')
        (fun e s' => wpAny (model prog w) (A.deeper (envOf qual scope L' f cdv)) (leaving (envOf qual scope L' f cdv) e) (fun _ s'' => R (.error e) s'') (fun e' s'' => R (.error e') s'') s')
        { s with heap := h₁, toks := s.toks + binds.length })
    (hco : scope.isCoroutine = false) (hgen : scope.isGenerator = false) (hk : scope.kind = .function)
    (hcell : ∀ x ∈ scope.names, x.2 ≠ .cell) : codeAny (model prog w) A (.call (.ref f) args) R s :=
  codeAny_call_def (fd := fnOf name qual params body scope dV kV doc pm an cdv ct) (body := body) (binds := binds) hroom ((X₀.keeps F.keep) _ _ ho) rfl (T.nolimit.keeps F.keep) (codeRec_of (X₀.keeps F.keep) hcd) rfl hbind hcell hloc
    (fun h₁ hns hk₁ => h s.heap.objs.size h₁ ⟨hns, hk₁, Nat.le_refl _⟩ News.nil (ground0 B F hf hke hA) (X₀.keeps F.keep) (T.keeps F.keep)) hco hgen hk

/-- a def with cells -/
theorem enter_cells (B : Below A₀ base outer h₀) (F : Fr h₀ L s.heap m) (X₀ : K.In h₀) (T : Top p loose mean mg mb h₀) (hA : A.frames = some (env :: outer)) (hf : env.frame = some L) (hke : env.scope.kind = .function)
    (ho : K.lookup f = some ⟨oc, od, .func (fnOf name qual params body scope dV kV doc pm an cdv ct), osl⟩) (hcd : codeIn K cdv qual = true) (hroom : A.depth < recursionLimit)
    (hbind : BindsTo s (fnOf name qual params body scope dV kV doc pm an cdv ct) args binds) (hkind : (binds.all fun y => scope.names.lookup y.1 == some .local || scope.names.lookup y.1 == some .cell) = true)
    (hnd : ((cellsFrom 0 scope.names []).map (·.1)).Nodup)
    (h : ∀ L' h₁ tk cells, Fr s.heap L' h₁ (bindL (envOfC qual scope L' f cdv).kindOf binds fun _ => none) → News s.heap L' h₁ cells →
      CellsAre (bindC (envOfC qual scope L' f cdv).kindOf binds fun _ => none) (cellsFrom (L' + 1) scope.names []) cells → Below A base (env :: outer) s.heap → K.In s.heap → Top p loose mean mg mb s.heap →
      wpAny (model prog w) (A.deeper (envOfC qual scope L' f cdv)) (execs body (envOfC qual scope L' f cdv))
        (fun fl s' => R (.ok (.ret (match fl with | .ret v => v | _ => .none))) s')
        (fun e s' => wpAny (model prog w) (A.deeper (envOfC qual scope L' f cdv)) (leaving (envOfC qual scope L' f cdv) e) (fun _ s'' => R (.error e) s'') (fun e' s'' => R (.error e') s'') s')
        { s with heap := h₁, toks := tk })
    (hco : scope.isCoroutine = false) (hgen : scope.isGenerator = false) (hk : scope.kind = .function) : codeAny (model prog w) A (.call (.ref f) args) R s := by
  refine codeAny_call_function hroom ((X₀.keeps F.keep) _ _ ho) rfl hco hgen rfl (codeRec_of (X₀.keeps F.keep) hcd) (hbind _ _ _ _ ?_)
  refine wpAny_newFunctionEnv_cells hk (kindsX hkind _) fun env' he s' x => ?_
  subst he
  refine ⟨((T.nolimit.keeps F.keep)).keeps x.toInCall.keep, codeAny_func ?_⟩
  obtain ⟨h₁, tk, rfl, _⟩ := x.done
  obtain ⟨cells, NC, Y⟩ := Cl.news (h₀ := s.heap) (Nat.le_refl _) fun n c hm => ⟨x.cell n c (lookup_of_mem_nodup (cellsFrom_names scope.names 0 (s.heap.objs.size + 1) [] [] rfl ▸ hnd) hm), x.above n c hm⟩
  exact h s.heap.objs.size h₁ tk cells ⟨x.toInCall.ns, x.toInCall.keep, Nat.le_refl _⟩ NC Y (ground0 B F hf hke hA) (X₀.keeps F.keep) (T.keeps F.keep)
end

/-- a contract: a call from within a def, of the written function at f; all that stood stays; a value comes back -/
abbrev ConV (w : World) (D U : Nat) (f : Addr) (vs : List Value) (kw : List (Str × Value)) (pre : Shared → Prop) (R : Tok → Value) : Prop :=
  ∀ (mean : ExcName → Option Value) (mg mb : Str → Option Value) (dp un : Nat) (gd : Option (List Code)) (cn : Str) (cs : Scope) (a : Addr) (ccd : Value) (cl : List (Str × Addr)) (outer : List Env) (A₀ : Around) (base h₀ : Heap) (L : Addr) (m : Str → Option Value) (s : Shared) (Q E : Value → Shared → Prop),
    Below A₀ base outer h₀ → Fr h₀ L s.heap m → (hd.heap_39 w.params).In h₀ → TopC mean mg mb h₀ → cs.kind = .function → dp + D < recursionLimit → un + U < cLine → pre s →
    (∀ t h' tk', s.toks ≤ tk' → Kept s.heap h' → Q (R t) { s with heap := h', toks := tk' }) →
    wpAny (model PySem.Challenge.rw_il0037_01.row.prog w) (ktrTop dp un gd cn cs L a ccd cl outer) (call (.ref f) vs kw) Q E s

theorem use_V {w : World} {D U : Nat} {f : Addr} {vs : List Value} {kw : List (Str × Value)} {pre : Shared → Prop} {R : Tok → Value} (C : ConV w D U f vs kw pre R)
    {mean : ExcName → Option Value} {mg mb : Str → Option Value} {dp un : Nat} {gd : Option (List Code)} {cn : Str} {cs : Scope} {a : Addr} {ccd : Value} {cl : List (Str × Addr)} {outer : List Env} {A₀ : Around} {base h₀ : Heap} {L : Addr} {m : Str → Option Value} {s : Shared} {Q E : Value → Shared → Prop} {news : List (Addr × Obj)}
    (B : Below A₀ base outer h₀) (F : Fr h₀ L s.heap m) (N : News h₀ L s.heap news) (X : (hd.heap_39 w.params).In h₀) (T : TopC mean mg mb h₀) (hk : cs.kind = .function) (hD : dp + D < recursionLimit) (hU : un + U < cLine) (hp : pre s)
    (ret : ∀ t h' tk', s.toks ≤ tk' → Fr h₀ L h' m → News h₀ L h' news → Q (R t) { s with heap := h', toks := tk' }) :
    wpAny (model PySem.Challenge.rw_il0037_01.row.prog w) (ktrTop dp un gd cn cs L a ccd cl outer) (call (.ref f) vs kw) Q E s :=
  C mean mg mb dp un gd cn cs a ccd cl outer A₀ base h₀ L m s Q E B F X T hk hD hU hp fun t h' tk' ht hkp => ret t h' tk' ht (F.keeps hkp) fun q hq => ⟨hkp _ _ (N q hq).1, (N q hq).2⟩

/-- a contract of a call whose answer is told by Out of the heap before, the heap behind and the value -/
abbrev ConG (w : World) (D U : Nat) (f : Addr) (vs : List Value) (kw : List (Str × Value)) (pre : Shared → Prop) (Out : Heap → Heap → Value → Prop) : Prop :=
  ∀ (mean : ExcName → Option Value) (mg mb : Str → Option Value) (dp un : Nat) (gd : Option (List Code)) (cn : Str) (cs : Scope) (a : Addr) (ccd : Value) (cl : List (Str × Addr)) (outer : List Env) (A₀ : Around) (base h₀ : Heap) (L : Addr) (m : Str → Option Value) (s : Shared) (Q E : Value → Shared → Prop),
    Below A₀ base outer h₀ → Fr h₀ L s.heap m → (hd.heap_39 w.params).In h₀ → TopC mean mg mb h₀ → cs.kind = .function → dp + D < recursionLimit → un + U < cLine → pre s →
    (∀ v h' tk', s.toks ≤ tk' → Kept s.heap h' → Out s.heap h' v → Q v { s with heap := h', toks := tk' }) →
    wpAny (model PySem.Challenge.rw_il0037_01.row.prog w) (ktrTop dp un gd cn cs L a ccd cl outer) (call (.ref f) vs kw) Q E s

theorem use_G {w : World} {D U : Nat} {f : Addr} {vs : List Value} {kw : List (Str × Value)} {pre : Shared → Prop} {Out : Heap → Heap → Value → Prop} (C : ConG w D U f vs kw pre Out)
    {mean : ExcName → Option Value} {mg mb : Str → Option Value} {dp un : Nat} {gd : Option (List Code)} {cn : Str} {cs : Scope} {a : Addr} {ccd : Value} {cl : List (Str × Addr)} {outer : List Env} {A₀ : Around} {base h₀ : Heap} {L : Addr} {m : Str → Option Value} {s : Shared} {Q E : Value → Shared → Prop} {news : List (Addr × Obj)}
    (B : Below A₀ base outer h₀) (F : Fr h₀ L s.heap m) (N : News h₀ L s.heap news) (X : (hd.heap_39 w.params).In h₀) (T : TopC mean mg mb h₀) (hk : cs.kind = .function) (hD : dp + D < recursionLimit) (hU : un + U < cLine) (hp : pre s)
    (ret : ∀ v h' tk', s.toks ≤ tk' → Kept s.heap h' → Fr h₀ L h' m → News h₀ L h' news → Out s.heap h' v → Q v { s with heap := h', toks := tk' }) :
    wpAny (model PySem.Challenge.rw_il0037_01.row.prog w) (ktrTop dp un gd cn cs L a ccd cl outer) (call (.ref f) vs kw) Q E s :=
  C mean mg mb dp un gd cn cs a ccd cl outer A₀ base h₀ L m s Q E B F X T hk hD hU hp fun v h' tk' ht hkp ho => ret v h' tk' ht hkp (F.keeps hkp) (fun q hq => ⟨hkp _ _ (N q hq).1, (N q hq).2⟩) ho

theorem news_add {h₀ h h' : Heap} {L x : Addr} {m : Str → Option Value} {news : List (Addr × Obj)} {o : Obj} (N : News h₀ L h' news) (F : Fr h₀ L h m) (hx : h'.get? x = some o) (hf : h.get? x = none) : News h₀ L h' ((x, o) :: news) := by
  intro p hp
  rcases List.mem_cons.mp hp with rfl | hp
  · refine ⟨hx, fun e => ?_, ?_⟩
    · obtain ⟨oL, _, _, hL, _⟩ := F.ns
      have e' : x = L := e
      rw [e', hL] at hf; cases hf
    · cases q : h₀.get? x with
      | none => rfl
      | some o' => have := F.keep x o' q; rw [hf] at this; cases this
  · exact N p hp

/-- a new list of ints -/
def OutInts (ns : List Int) (h h' : Heap) (v : Value) : Prop := ∃ x ys n, v = .ref x ∧ h'.get? x = some (W.listOf ys.toArray n) ∧ h.get? x = none ∧ IntsAre ys ns
/-- a new list of texts -/
def OutStrs (ws : List Str) (h h' : Heap) (v : Value) : Prop := ∃ x ys n, v = .ref x ∧ h'.get? x = some (W.listOf ys.toArray n) ∧ h.get? x = none ∧ StrsAre ys ws

section
variable {s : Shared} {Q : Value → Shared → Prop} {h' : Heap} {tk' : Nat}
theorem ret_int {x y : Int} {t : Tok} (hret : ∀ (t : Tok) h' tk', s.toks ≤ tk' → Kept s.heap h' → Q (.int x t) { s with heap := h', toks := tk' }) (e : y = x) (ht : s.toks ≤ tk') (hk : Kept s.heap h') : Q (.int y t) { s with heap := h', toks := tk' } := e ▸ hret t h' tk' ht hk
theorem ret_bool {x y : Bool} (hret : ∀ (t : Tok) h' tk', s.toks ≤ tk' → Kept s.heap h' → Q (.bool x) { s with heap := h', toks := tk' }) (e : y = x) (ht : s.toks ≤ tk') (hk : Kept s.heap h') : Q (.bool y) { s with heap := h', toks := tk' } := e ▸ hret 0 h' tk' ht hk
theorem ret_str {x y : Str} {t : Tok} (hret : ∀ (t : Tok) h' tk', s.toks ≤ tk' → Kept s.heap h' → Q (.str x t) { s with heap := h', toks := tk' }) (e : y = x) (ht : s.toks ≤ tk') (hk : Kept s.heap h') : Q (.str y t) { s with heap := h', toks := tk' } := e ▸ hret t h' tk' ht hk
theorem ret_bytes {x y : Array UInt8} {t : Tok} (hret : ∀ (t : Tok) h' tk', s.toks ≤ tk' → Kept s.heap h' → Q (.bytes x t) { s with heap := h', toks := tk' }) (e : y = x) (ht : s.toks ≤ tk') (hk : Kept s.heap h') : Q (.bytes y t) { s with heap := h', toks := tk' } := e ▸ hret t h' tk' ht hk
end

theorem words1 : True := by
  k_with "my fill" => (dsimp only [ConV, ConG]; k_fill; w_on)
  k_with "my enter" => (refine wpAny_call ?_; w_strict (k_dflt first
    | (refine' enter_plain ?zq1x1k1 ?zq1x1k2 ?zq1x1k3 ?zq1x1k5 ?zq1x1kA ?zq1x1kF ?zq1x1kK ?zq1x1k6 ?zq1x1k7 ?zq1x1k8 ?zq1x1k9 ?zq1x1kB ?_ ?zq1x1c2 ?zq1x1c3 ?zq1x1c4 ?zq1x1c5; (case zq1x1kA => exact rfl); (case zq1x1kF => exact rfl); (case zq1x1kK => assumption); (case zq1x1k1 => k_asm); (case zq1x1k2 => k_asm); (case zq1x1k3 => k_asm); (case zq1x1k5 => k_asm); (case zq1x1k6 => k_is); (case zq1x1k7 => k_is); (case zq1x1k8 => ktr_room); (case zq1x1k9 => first | exact BindsTo.of_eq rfl | exact binds_K (by k_in) rfl (by k_is) rfl rfl rfl | fail "k_enter: no rule for these arguments"); (case zq1x1c5 => decide); (case zq1x1kB => exact locs rfl); (case zq1x1c2 => exact rfl); (case zq1x1c3 => exact rfl); (case zq1x1c4 => exact rfl); k_whole; intro L' h' F' N' B' X' T'; (try dsimp only); (try k_lift B'); (try k_fold))
    | (refine' enter_cells ?zq1x1k1 ?zq1x1k2 ?zq1x1k3 ?zq1x1k5 ?zq1x1kA ?zq1x1kF ?zq1x1kK ?zq1x1k6 ?zq1x1k7 ?zq1x1k8 ?zq1x1k9 ?zq1x1kB ?zq1x1kD ?_ ?zq1x1c2 ?zq1x1c3 ?zq1x1c4; (case zq1x1kA => exact rfl); (case zq1x1kF => exact rfl); (case zq1x1kK => assumption); (case zq1x1k1 => k_asm); (case zq1x1k2 => k_asm); (case zq1x1k3 => k_asm); (case zq1x1k5 => k_asm); (case zq1x1k6 => k_is); (case zq1x1k7 => k_is); (case zq1x1k8 => ktr_room); (case zq1x1k9 => first | exact BindsTo.of_eq rfl | exact binds_K (by k_in) rfl (by k_is) rfl rfl rfl | fail "k_enter: no rule for these arguments"); (case zq1x1kB => exact rfl); (case zq1x1kD => decide +kernel); (case zq1x1c2 => exact rfl); (case zq1x1c3 => exact rfl); (case zq1x1c4 => exact rfl); k_whole; intro L' h' tk' cells' F' N' Y' B' X' T'; k_cells Y'; (try simp only [List.cons_append, List.nil_append] at N'); (try dsimp only); (try k_lift B'); (try k_fold))))
  trivial

/-- the rule of a contract in a walk -/
theorem words2 : True := by
  k_with "my end" => ((try dsimp only); (try k_unfold); (try dsimp only))
  trivial
section XBlt37
set_option maxRecDepth 100000
open PySem.Builtin PySem.Builtin._codecs

theorem forIn_two {σ : Type} {f : Nat → σ → Sem (ForInStep σ)} {s0 s1 : σ} (n : Nat) (h1 : n ≠ 0 → ∀ k, f k s0 = pure (.yield s1)) (h2 : 1 < n → ∀ k, f k s1 = pure (.done s1)) :
    forIn (List.range' 0 n) s0 f = pure (if n = 0 then s0 else s1) := by
  match n, h1, h2 with
  | 0, _, _ => simp
  | 1, h1, _ => simp [List.range', h1]
  | n + 2, h1, h2 => simp [List.range', h1, h2]

theorem forIn_steps {σ : Type} {f : Nat → σ → Sem (ForInStep σ)} (g : Nat → σ) (n : Nat) (h : ∀ k, k < n → f k (g k) = pure (.yield (g (k + 1)))) :
    ∀ j i, i + j = n → forIn (List.range' i j) (g i) f = pure (g n) := by
  intro j
  induction j with
  | zero => intro i e; simp at e; subst e; simp
  | succ j ih => intro i e; rw [List.range'_succ, List.forIn_cons, h i (by omega)]; simp; exact ih (i + 1) (by omega)

theorem enc_ascii {id : String} {x : PySem.Str} {self : Value} (h : ∀ c ∈ x.cps, c < 128) (hz : x.length ≤ sizeLine) : encodeNarrow id asciiCodec none self x = pure (x.cps.map (·.toUInt8)) := by
  have hbad : Array.findIdx? asciiCodec.bad x.cps = none := by
    rw [Array.findIdx?_eq_none_iff]
    intro c hc
    have := h c hc
    show decide (c ≥ 128) = false
    exact decide_eq_false (by omega)
  have hfold : ∀ (l : List Nat) (a : Array UInt8), List.foldl (fun acc y => acc ++ (asciiCodec.bytesOf y).toArray) a l = a ++ (l.map (·.toUInt8)).toArray := by
    intro l
    induction l with
    | nil => intro a; simp
    | cons c l ih => intro a; rw [List.foldl_cons, ih]; simp [asciiCodec]
  unfold encodeNarrow
  simp only [Std.Legacy.Range.forIn_eq_forIn_range']
  refine (congrArg (· >>= _) (forIn_two (s1 := (x.length, x.cps.map (·.toUInt8), {})) _ ?_ ?_)).trans ?_
  · intro hn k
    have hn' : x.cps.size ≠ 0 := by simpa [Std.Legacy.Range.size, Str.length] using hn
    rw [if_neg (by simp)]
    have hx : x.cps[0]? = some (x.cps[0]'(by omega)) := by simp
    dsimp only
    rw [hx]
    dsimp only
    have hb : asciiCodec.bad (x.cps[0]'(by omega)) = false := by
      show decide (_ ≥ 128) = false
      have := h _ (Array.getElem_mem (i := 0) (xs := x.cps) (by omega))
      exact decide_eq_false (by omega)
    rw [hb]
    simp only [Bool.not_false, if_true]
    have e1 : x.cps.extract 0 x.cps.size = x.cps := by simp
    simp only [e1, hbad, Option.getD_none]
    rw [← Array.foldl_toList, hfold, ← Array.toList_map, Array.toArray_toList, Array.empty_append, Nat.zero_add]
    rfl
  · intro _ k
    have hs : (Array.map (fun x => x.toUInt8) x.cps).size ≤ sizeLine := by rw [Array.size_map]; exact hz
    dsimp only
    rw [if_neg (by omega)]
    have hx : x.cps[x.length]? = none := by simp [Str.length]
    rw [hx]
  · have e : [:x.length].size = x.length := by simp [Std.Legacy.Range.size]
    rw [e]
    simp only [pure_bind]
    by_cases hn : x.length = 0
    · rw [if_pos hn]
      have : x.cps = #[] := Array.eq_empty_of_size_eq_zero hn
      rw [this]; simp
    · rw [if_neg hn]

theorem dec_ascii {id : String} {b : Array UInt8} (h : ∀ c ∈ b, c < 128) (hz : b.size ≤ sizeLine) : runDecoder id asciiDecoder none true b 0 [] = pure (b.map (·.toNat), b.size) := by
  unfold runDecoder
  simp only [Std.Legacy.Range.forIn_eq_forIn_range']
  have e : [:b.size].size = b.size := by simp [Std.Legacy.Range.size]
  rw [e]
  have e0 : ((0 : Nat), (#[] : Array Nat), ({ held := [] } : Faults)) = (fun k => (k, (b.extract 0 k).map (·.toNat), ({ held := [] } : Faults))) 0 := by simp
  rw [e0]
  refine (congrArg (· >>= _) (forIn_steps (fun k => (k, (b.extract 0 k).map (·.toNat), ({ held := [] } : Faults))) b.size ?_ b.size 0 (by simp))).trans ?_
  · intro k hk
    dsimp only
    rw [if_neg (by simp; omega), if_neg (by omega)]
    have hf : asciiDecoder.find true b k = Found.char (b.getD k 0).toNat (k + 1) := by
      show (if (b.getD k 0).toNat < 128 then _ else _) = _
      rw [if_pos]
      have hm := h _ (Array.getElem_mem (i := k) (xs := b) hk)
      have : b.getD k 0 = b[k] := by simp [Array.getD, hk]
      rw [this]
      exact hm
    rw [hf]
    simp only [Found.char]
    congr 4
    have : b.getD k 0 = b[k] := by simp [Array.getD, hk]
    rw [this, Array.extract_succ_right (by omega) hk, Array.map_push]
    exact Array.append_singleton
  · simp
theorem eroad_ascii {id : String} {x : PySem.Str} {self : Value} : encodeRoad id self x (PySem.Str.ofString "ascii") none = (encodeNarrow id asciiCodec none self x >>= mkBytes) := by kernel_rfl
theorem encode_eq {x : PySem.Str} {t u : Tok} : «str.encode» ⟨[.str x t, .str (PySem.Str.ofString "ascii") u], []⟩ = (encodeRoad "str.encode" (.str x t) x (PySem.Str.ofString "ascii") none >>= fun v => ret v) := by
  unfold «str.encode»
  kernel_rfl
theorem decode_eq {c : UInt8} {cs : List UInt8} {t u : Tok} : «bytes.decode» ⟨[.bytes (c :: cs).toArray t, .str (PySem.Str.ofString "ascii") u], []⟩ = (mkStr (PySem.Str.ofString "utf-8") >>= fun _ => mkStr (PySem.Str.ofString "ascii") >>= fun e => mkStr (PySem.Str.ofString "bytes.decode") >>= fun d =>
    call (.builtin "_codecs.decode.text") [.bytes (c :: cs).toArray t, e, .none, d] >>= fun v => ret v) := by kernel_rfl
theorem road_ascii {id : String} {b : Array UInt8} : decodeRoad id b (PySem.Str.ofString "ascii") none [] = (runDecoder id asciiDecoder none true b 0 [] >>= fun r => mkStr ⟨r.1⟩) := by kernel_rfl

theorem meets_encode {x : PySem.Str} {t u : Tok} (h : ∀ c ∈ x.cps, c < 128) : Meets («str.encode» ⟨[.str x t, .str (PySem.Str.ofString "ascii") u], []⟩) (fun _ R s => x.length ≤ sizeLine ∧ ∀ t' k, R (.ok (.ret (.bytes (x.cps.map (·.toUInt8)) t'))) { s with toks := k }) := by
  refine .of_wp fun prog w A R s hS => ?_
  obtain ⟨hsz, hq⟩ := hS
  rw [encode_eq, eroad_ascii, enc_ascii h hsz]
  refine wpAny_bind (wpAny_bind (wpAny_pure ?_))
  exact wpAny_mkBytes (wpAny_pure ⟨_, rfl, hq _ _⟩) (by rw [Array.size_map]; exact hsz)

theorem meets_dtext {b : Array UInt8} {t t1 t2 : Tok} {d : PySem.Str} (h : ∀ c ∈ b, c < 128) :
    Meets («_codecs.decode.text» ⟨[.bytes b t, .str (PySem.Str.ofString "ascii") t1, .none, .str d t2], []⟩) (fun _ R s => b.size ≤ sizeLine ∧ ∀ t' k, R (.ok (.ret (.str ⟨b.map (·.toNat)⟩ t'))) { s with toks := k }) := by
  refine .of_wp fun prog w A R s hS => ?_
  obtain ⟨hsz, hq⟩ := hS
  show wpAny _ _ (Bytes.bytesLike _ (.bytes b t) >>= fun r => _) _ _ s
  refine wpAny_bind (wpAny_of_eq KBd.like_eq ?_)
  refine wpAny_bind (wpAny_of_eq KBd.held_eq ?_)
  show wpAny _ _ (decodeRoad _ b (PySem.Str.ofString "ascii") none [] >>= fun v => _) _ _ s
  rw [road_ascii, dec_ascii h hsz]
  refine wpAny_bind (wpAny_bind (wpAny_pure ?_))
  exact wpAny_mkStr (wpAny_pure ⟨_, rfl, hq _ _⟩) (by simpa [PySem.Str.length] using hsz)

theorem meets_decode {b : Array UInt8} {t u : Tok} (h : ∀ c ∈ b, c < 128) (hb : 0 < b.size) :
    Meets («bytes.decode» ⟨[.bytes b t, .str (PySem.Str.ofString "ascii") u], []⟩) (fun _ R s => b.size ≤ sizeLine ∧ ∀ t' k, R (.ok (.ret (.str ⟨b.map (·.toNat)⟩ t'))) { s with toks := k }) := by
  obtain ⟨l⟩ := b
  cases l with
  | nil => exact absurd hb (by simp)
  | cons c cs =>
  refine .of_wp fun prog w A R s hS => ?_
  obtain ⟨hsz, hq⟩ := hS
  rw [decode_eq]
  refine wpAny_bind (wpAny_mkStr ?_ (by decide))
  refine wpAny_bind (wpAny_mkStr ?_ (by decide))
  refine wpAny_bind (wpAny_mkStr ?_ (by decide))
  exact wpAny_bind (call_function_meets KBd.kind_text KBd.plain_text KBd.entry_text (KBd.args_text _ _ _ _) (meets_dtext h) ⟨hsz, fun t' k => wpAny_pure ⟨_, rfl, hq _ _⟩⟩)

theorem args_bytes_decode_2 (a b : Value) : argsOk "bytes.decode" ⟨[a, b], []⟩ := by
  unfold argsOk; rw [signature?_of (id := "bytes.decode") (n := ['e', 'd', 'o', 'c', 'e', 'd']) (o := ['s', 'e', 't', 'y', 'b']) (by kernel_rfl) FB.owner_bytes]; kernel_rfl
theorem slot_bytes_translate : Slot "bytes" "translate" "bytes.translate" :=
  .of (owner := "bytes") (n := "translate") (by rw [typeLookup_type, builtinLookup_eq_fast]; kernel_rfl) (by decide +kernel) (by decide +kernel) (by decide +kernel)
    (by first | exact .inl (by decide +kernel) | exact .inr (by decide +kernel)) (by rw [isSubtype_type]; kernel_rfl)
theorem type_bytes_translate : typeOf (.builtin "bytes.translate") = pure (.type "method_descriptor") := by show builtinType _ = _; rw [builtinType_eq_fast]; kernel_rfl
theorem entry_bytes_translate : entryFor table "bytes.translate" = some Builtin.«bytes.translate» := entryFor_of_tree (by kernel_rfl)
theorem args_bytes_translate_2 (a b : Value) : argsOk "bytes.translate" ⟨[a, b], []⟩ := by
  unfold argsOk; rw [signature?_of (id := "bytes.translate") (n := ['e', 't', 'a', 'l', 's', 'n', 'a', 'r', 't']) (o := ['s', 'e', 't', 'y', 'b']) (by kernel_rfl) FB.owner_bytes]; kernel_rfl
theorem check_maketrans (a b : Value) : checkBuiltinCall "bytes.maketrans" ⟨[a, b], []⟩ = pure () := by kernel_rfl
theorem plain_maketrans : plainId "bytes.maketrans" = true := by decide +kernel
theorem entry_maketrans : entryFor table "bytes.maketrans" = some Builtin.«bytes.maketrans» := entryFor_of_tree (by kernel_rfl)
/-- the table that maketrans makes -/
def transTab (f x : List UInt8) : Array UInt8 := (f.zip x).foldl (fun t p => t.setIfInBounds p.1.toNat p.2) ((Array.range 256).map (·.toUInt8))
theorem transTab_size (f x : List UInt8) : (transTab f x).size = 256 := by
  have : ∀ (l : List (UInt8 × UInt8)) (t : Array UInt8), (l.foldl (fun t p => t.setIfInBounds p.1.toNat p.2) t).size = t.size := by
    intro l
    induction l with
    | nil => intro t; rfl
    | cons p l ih => intro t; rw [List.foldl_cons, ih]; simp
  rw [transTab, this]; simp

theorem meets_maketrans {f x : List UInt8} {t u : Tok} (he : f.length = x.length) : Meets («bytes.maketrans» ⟨[.bytes f.toArray t, .bytes x.toArray u], []⟩) (fun _ R s => ∀ t' k, R (.ok (.ret (.bytes (transTab f x) t'))) { s with toks := k }) := by
  refine .of_wp fun prog w A R s hq => ?_
  unfold «bytes.maketrans» Bytes.maketransM
  dsimp only
  refine wpAny_bind (wpAny_of_eq (a := ()) rfl ?_)
  refine wpAny_bind (wpAny_of_eq (a := ()) rfl ?_)
  refine wpAny_bind (wpAny_of_eq (a := f.toArray) KBd.like_eq ?_)
  refine wpAny_bind (wpAny_of_eq (a := x.toArray) KBd.like_eq ?_)
  refine wpAny_ite ?_
  rw [if_neg (by simp [he])]
  refine wpAny_bind (wpAny_mkBytes (wpAny_pure ⟨_, rfl, ?_⟩) ?_)
  · exact hq _ _
  · have := transTab_size f x
    show (transTab f x).size ≤ sizeLine
    rw [this, sizeLine_eq]; decide

theorem meets_translate {b tb : Array UInt8} {t u : Tok} (ht : tb.size = 256) : Meets («bytes.translate» ⟨[.bytes b t, .bytes tb u], []⟩) (fun _ R s => b.size ≤ sizeLine ∧ ∀ t' k, R (.ok (.ret (.bytes (b.map fun c => tb.getD c.toNat c) t'))) { s with toks := k }) := by
  refine .of_wp fun prog w A R s hS => ?_
  obtain ⟨hsz, hq⟩ := hS
  have hout : (b.filter fun c => !(#[] : Array UInt8).contains c) = b := Array.filter_eq_self.2 (by simp)
  unfold «bytes.translate» Bytes.translateM
  dsimp only
  refine wpAny_ite ?_
  rw [if_neg (by simp)]
  refine wpAny_ite ?_
  rw [if_neg (by simp)]
  refine wpAny_bind ?_
  refine wpAny_of_eq (a := tb) KBd.like_eq ?_
  refine wpAny_ite ?_
  rw [if_neg (by simp [ht])]
  refine wpAny_bind (wpAny_pure ?_)
  show wpAny _ _ (pure #[] >>= fun delete => _) _ _ _
  refine wpAny_bind (wpAny_pure ?_)
  refine wpAny_bind (wpAny_of_eq (a := b) rfl ?_)
  rw [hout]
  show wpAny _ _ (if ((b.map fun c => tb.getD c.toNat c) == b) = true then _ else _) _ _ _
  refine wpAny_ite ?_
  split
  · rename_i he
    have he' : (b.map fun c => tb.getD c.toNat c) = b := by simpa using he
    refine wpAny_bind (wpAny_rule ?_)
    rw [he'] at hq
    refine wpAny_bind ?_
    unfold Bytes.Kind.same
    dsimp only
    refine wpAny_ite ?_
    rw [if_pos (by decide)]
    refine wpAny_bind (wpAny_typeOf (typeIs_bytes s b t) ?_)
    refine wpAny_ite ?_
    rw [if_pos (by decide)]
    exact wpAny_pure (wpAny_pure ⟨_, rfl, hq t s.toks⟩)
  · refine wpAny_bind (wpAny_mkBytes (wpAny_pure ⟨_, rfl, hq _ _⟩) (by rw [Array.size_map]; exact hsz))

section
variable {prog : Program} {w : World} {A : Around} {E : Value → Shared → Prop} {s : Shared} {Q : Value → Shared → Prop}
theorem call_encode {x : PySem.Str} {t u : Tok} (h : ∀ c ∈ x.cps, c < 128) (hz : x.length ≤ 16777216) (hq : ∀ t' k, Q (.bytes (x.cps.map (·.toUInt8)) t') { s with toks := k }) :
    wpAny (model prog w) A (call (.builtin "str.encode") [.str x t, .str (PySem.Str.ofString "ascii") u]) Q E s :=
  call_meets F.slot_str_encode (typeIs_str _ _ _) F.entry_str_encode (F.args_str_encode_2 _ _) (meets_encode h) ⟨by rw [sizeLine_eq]; exact hz, hq⟩
theorem call_decode {b : Array UInt8} {t u : Tok} (h : ∀ c ∈ b, c < 128) (hb : 0 < b.size) (hz : b.size ≤ 16777216) (hq : ∀ t' k, Q (.str ⟨b.map (·.toNat)⟩ t') { s with toks := k }) :
    wpAny (model prog w) A (call (.builtin "bytes.decode") [.bytes b t, .str (PySem.Str.ofString "ascii") u]) Q E s :=
  call_meets FB.slot_bytes_decode (typeIs_bytes _ _ _) FB.entry_bytes_decode (args_bytes_decode_2 _ _) (meets_decode h hb) ⟨by rw [sizeLine_eq]; exact hz, hq⟩
theorem call_translate {b tb : Array UInt8} {t u : Tok} (ht : tb.size = 256) (hz : b.size ≤ 16777216) (hq : ∀ t' k, Q (.bytes (b.map fun c => tb.getD c.toNat c) t') { s with toks := k }) :
    wpAny (model prog w) A (call (.builtin "bytes.translate") [.bytes b t, .bytes tb u]) Q E s :=
  call_meets slot_bytes_translate (typeIs_bytes _ _ _) entry_bytes_translate (args_bytes_translate_2 _ _) (meets_translate ht) ⟨by rw [sizeLine_eq]; exact hz, hq⟩
theorem call_maketrans {f x : List UInt8} {t u : Tok} (he : f.length = x.length) (hq : ∀ t' k, Q (.bytes (transTab f x) t') { s with toks := k }) :
    wpAny (model prog w) A (call (.builtin "bytes.maketrans") [.bytes f.toArray t, .bytes x.toArray u]) Q E s :=
  wpAny_call (codeAny_call_builtin plain_maketrans entry_maketrans (wpAny_of_eq (check_maketrans _ _) (meets_maketrans he prog w A (wants Q E) s hq)))
theorem call_maketransA {f x : Array UInt8} {t u : Tok} (he : f.size = x.size) (hq : ∀ t' k, Q (.bytes (transTab f.toList x.toList) t') { s with toks := k }) :
    wpAny (model prog w) A (call (.builtin "bytes.maketrans") [.bytes f t, .bytes x u]) Q E s := by
  obtain ⟨f⟩ := f
  obtain ⟨x⟩ := x
  exact call_maketrans he hq
theorem getm_encode {M : Model} {x : PySem.Str} {t : Tok} {pl : Sem Bool} {Q : Value × List Value → Shared → Prop} (h : Q (.builtin "str.encode", [.str x t]) s) : wpAny M A (getMethod (.str x t) "encode" pl) Q E s := by
  with_reducible exact GM.of (.str x t) (typeIs_str _ _ _) F.slot_str_encode F.type_str_encode GM.noRef h
theorem getm_translate {M : Model} {b : Array UInt8} {t : Tok} {pl : Sem Bool} {Q : Value × List Value → Shared → Prop} (h : Q (.builtin "bytes.translate", [.bytes b t]) s) : wpAny M A (getMethod (.bytes b t) "translate" pl) Q E s := by
  with_reducible exact KBd.method_of (.bytes b t) (typeIs_bytes _ _ _) slot_bytes_translate type_bytes_translate KBd.noRef h
end
end XBlt37

theorem py_pow {c k : Nat} (hc : c ≤ 256) (hc0 : 0 < c) (h : k ≤ 1000) : (((c : Nat) : Int) ^ k).natAbs.log2 < 9000 := by
  have e : (((c : Nat) : Int) ^ k).natAbs = c ^ k := by rw [Int.natAbs_pow]; rfl
  rw [e]
  refine (Nat.log2_lt (Nat.ne_of_gt (Nat.pow_pos hc0))).mpr ?_
  refine Nat.lt_of_le_of_lt (Nat.pow_le_pow_left hc k) ?_
  rw [show 256 = 2 ^ 8 by decide, ← Nat.pow_mul]
  exact Nat.pow_lt_pow_right (by decide) (by omega)
section
variable {prog : Program} {w : World} {A : Around} {E : Value → Shared → Prop} {s : Shared} {Q : Value → Shared → Prop} {a : Int} {t u : Tok} {k : Nat}
theorem fdiv256 (hk : k ≤ 1000) (h : Q (.int (a.fdiv (256 ^ k)) s.toks) { s with toks := s.toks + 1 }) : wpAny (model prog w) A (binaryOp .FloorDiv (.int a t) (.int (256 ^ k) u)) Q E s :=
  floordiv_int (Int.ne_of_gt (Int.pow_pos (by decide))) h (Or.inl (PyProof.noPylong_of_log2 (py_pow (c := 256) (by decide) (by decide) hk)))
theorem fdiv64 (hk : k ≤ 1000) (h : Q (.int (a.fdiv (64 ^ k)) s.toks) { s with toks := s.toks + 1 }) : wpAny (model prog w) A (binaryOp .FloorDiv (.int a t) (.int (64 ^ k) u)) Q E s :=
  floordiv_int (Int.ne_of_gt (Int.pow_pos (by decide))) h (Or.inl (PyProof.noPylong_of_log2 (py_pow (c := 64) (by decide) (by decide) hk)))
theorem mul2pow (hk : k ≤ 60) (h : Q (.int (a * 2 ^ k) s.toks) { s with toks := s.toks + 1 }) : wpAny (model prog w) A (binaryOp .Mult (.int a t) (.int (2 ^ k) u)) Q E s := by
  have h1 : (0 : Int) < 2 ^ k := Int.pow_pos (by decide)
  have h2 : (2 : Int) ^ k < 2 ^ 64 := by
    have : (2 : Nat) ^ k < 2 ^ 64 := Nat.pow_lt_pow_right (by decide) (by omega)
    exact_mod_cast this
  exact PyProof.Rows.mul_int h (.of_right (intBits_le_64 (by omega) h2))
end
theorem words3 : True := by
  k_with "binaryOp Mult int int" => (k_here; (with_reducible refine mul2pow ?zq3x0kfd ?_); (case zq3x0kfd => omega))
  k_with "binaryOp FloorDiv int int" => (k_here; first
    | ((with_reducible refine fdiv256 ?zq3x1kfd ?_); (case zq3x1kfd => omega))
    | ((with_reducible refine fdiv64 ?zq3x1kfd ?_); (case zq3x1kfd => omega)))
  k_with "call type:type" => (k_here; (with_reducible show wpAny _ _ (call _ [Value.bytes _ _]) _ _ _); refine call_type_of (Tx := "bytes") rfl (by decide +kernel) ?_)
  k_with "getMethod str" => (k_here; with_reducible refine getm_encode ?_)
  k_with "getMethod bytes" => (k_here; with_reducible refine getm_translate ?_)
  k_with "call builtin:str.encode" => (k_here; k_dflt (refine call_encode (by assumption) (by first | assumption | omega) ?_); intro _ _)
  k_with "call builtin:bytes.translate" => (k_here; k_dflt (refine call_translate ?zq3x6kt ?zq3x6kz ?_); (case zq3x6kt => exact transTab_size _ _); (case zq3x6kz => first | assumption | omega); intro _ _)
  k_with "getMethod type:bytes" => (k_here; refine' method_type ?zq3x7F ?zq3x7X ?zq3x7m (by decide +kernel) ?zq3x7e ?zq3x7h ?_; (case zq3x7F => k_asm); (case zq3x7X => k_asm); (case zq3x7m => (show typeOf (.type "bytes") = _; first | rfl | kernel_rfl)); (case zq3x7e => k_dflt k_is); (case zq3x7h => k_handed))
  k_with "call builtin:bytes.maketrans" => (k_here; k_dflt (refine call_maketransA ?zq3x8ke ?_); (case zq3x8ke => first | assumption | rfl | omega | simp_all); intro _ _)
  k_with "call type:bytes" => (k_here; (with_reducible show wpAny _ _ (call (Value.type _) [Value.ref _]) _ _ _); k_dflt (refine' bytes_K ?zq3x9F ?zq3x9N ?zq3x9l ?zq3x9i ?zq3x9r ?zq3x9z ?zq3x9h ?_; (case zq3x9F => k_asm); (case zq3x9N => k_asm); (case zq3x9l => exact News.isList (by k_asm) (by k_mem)); (case zq3x9i => assumption); (case zq3x9r => assumption); (case zq3x9z => ((have hiz := IntsAre.length (by assumption)); rw [sizeLine_eq]; omega)); (case zq3x9h => with_unfolding_all rfl); k_whole); intro h' t' k' F' N' hB'; clear hB'; (try k_sweep))
  trivial
section
variable {prog : Program} {w : World} {A : Around} {E : Value → Shared → Prop} {s : Shared} {env : Env} {h₀ : Heap} {x : Str} {body : List Stmt} {Q : Flow → Shared → Prop}

/-- what a turn must come to -/
def TurnEnd {σ : Type} (h₀ : Heap) (L : Addr) (x : Str) (Led : σ → List (Addr × Obj)) (Mp : σ → Str → Option Value) (St : σ → Prop) (own : List (Addr × Obj)) (s : Shared) (Q : Flow → Shared → Prop) (f : Flow) (s₂ : Shared) : Prop :=
  match f with
  | .ret v => Q (.ret v) s₂
  | .brk => Q .next s₂
  | _ => ∃ c h' tk' m', s₂ = { s with heap := h', toks := tk' } ∧ Fr h₀ L h' m' ∧ (∀ z, z ≠ x → m' z = Mp c z) ∧ News h₀ L h' (Led c ++ own) ∧ St c

theorem TurnEnd.next {σ : Type} {L : Addr} {Led : σ → List (Addr × Obj)} {Mp : σ → Str → Option Value} {St : σ → Prop} {own : List (Addr × Obj)} {h' : Heap} {tk' : Nat} {m' : Str → Option Value}
    (c : σ) (F : Fr h₀ L h' m') (hm : ∀ z, z ≠ x → m' z = Mp c z) (N : News h₀ L h' (Led c ++ own)) (hS : St c) : TurnEnd h₀ L x Led Mp St own s Q .next { s with heap := h', toks := tk' } := ⟨c, h', tk', m', rfl, F, hm, N, hS⟩
theorem TurnEnd.cont {σ : Type} {L : Addr} {Led : σ → List (Addr × Obj)} {Mp : σ → Str → Option Value} {St : σ → Prop} {own : List (Addr × Obj)} {h' : Heap} {tk' : Nat} {m' : Str → Option Value}
    (c : σ) (F : Fr h₀ L h' m') (hm : ∀ z, z ≠ x → m' z = Mp c z) (N : News h₀ L h' (Led c ++ own)) (hS : St c) : TurnEnd h₀ L x Led Mp St own s Q .cont { s with heap := h', toks := tk' } := ⟨c, h', tk', m', rfl, F, hm, N, hS⟩

theorem turn_fin {σ : Type} {adr : List Addr} (Led : σ → List (Addr × Obj)) (Mp : σ → Str → Option Value) (St : Nat → σ → Prop) (hadr : ∀ c, (Led c).map (·.1) = adr) {i : Nat} {own : List (Addr × Obj)} {f : Flow} {s₂ s₁ : Shared}
    (p : TurnEnd h₀ env.locals x Led Mp (St (i + 1)) own s₁ Q f s₂) :
    InvPostN h₀ env.locals (fun m nx => ∃ c, St (i + 1) c ∧ nx = Led c ∧ ∀ z, z ≠ x → m z = Mp c z) own adr s₁ Q f s₂ := by
  have up : (∃ c h' tk' m', s₂ = { s₁ with heap := h', toks := tk' } ∧ Fr h₀ env.locals h' m' ∧ (∀ z, z ≠ x → m' z = Mp c z) ∧ News h₀ env.locals h' (Led c ++ own) ∧ St (i + 1) c) →
      InvEndN h₀ env.locals (fun m nx => ∃ c, St (i + 1) c ∧ nx = Led c ∧ ∀ z, z ≠ x → m z = Mp c z) own adr s₁ s₂ := by
    rintro ⟨c, h', tk', m', e, F, hm, N, hS⟩
    exact ⟨h', tk', m', Led c ++ own, Led c, e, F, N, fun p hp => List.mem_append_left _ hp, fun p hp => List.mem_append_right _ hp, hadr c, c, hS, rfl, hm⟩
  cases f with
  | ret v => exact p
  | brk => exact p
  | next => exact up p
  | cont => exact up p

theorem fr_turn {L : Addr} {h : Heap} {m₁ M : Str → Option Value} {v : Value} (hm : ∀ z, z ≠ x → m₁ z = M z) (F : Fr h₀ L h (fun y => if y = x then some v else m₁ y)) : Fr h₀ L h (fun y => if y = x then some v else M y) := by
  have e : (fun y => if y = x then some v else m₁ y) = fun y => if y = x then some v else M y := by
    funext y
    by_cases hy : y = x
    · rw [if_pos hy, if_pos hy]
    · rw [if_neg hy, if_neg hy, hm y hy]
  rw [← e]; exact F
theorem fr_out {L : Addr} {h : Heap} {m₁ M : Str → Option Value} (hm : ∀ z, z ≠ x → m₁ z = M z) (F : Fr h₀ L h m₁) : Fr h₀ L h (fun y => if y = x then m₁ y else M y) := by
  have e : (fun y => if y = x then m₁ y else M y) = m₁ := by
    funext y
    by_cases hy : y = x
    · rw [if_pos hy]
    · rw [if_neg hy, hm y hy]
  rw [e]; exact F

/-- for x in a list of ints of the ground -/
theorem for_ints {σ : Type} {l : Addr} {vs : List Value} {ns : List Int} {m₀ : Str → Option Value} {adr : List Addr} (Led : σ → List (Addr × Obj)) (Mp : σ → Str → Option Value) (St : Nat → σ → Prop) (c₀ : σ) (hadr : ∀ c, (Led c).map (·.1) = adr)
    (hh : A.handled = none) (hl : h₀.IsList l vs.toArray) (hi : IntsAre vs ns) (F : Fr h₀ env.locals s.heap m₀) (N : News h₀ env.locals s.heap (Led c₀)) (hm₀ : ∀ z, z ≠ x → m₀ z = Mp c₀ z) (h0 : St 0 c₀)
    (turn : ∀ i (c : σ) (n : Int) t h tk own, ns[i]? = some n → St i c → OwnOff own adr → Fr h₀ env.locals h (fun y => if y = x then some (.int n t) else Mp c y) → News h₀ env.locals h (Led c ++ own) →
      wpAny (model prog w) A (execs body env) (TurnEnd h₀ env.locals x Led Mp (St (i + 1)) own { s with heap := h, toks := tk } Q) E { s with heap := h, toks := tk })
    (done : ∀ (c : σ) (u : Str → Option Value) h tk, St ns.length c → Fr h₀ env.locals h (fun y => if y = x then u y else Mp c y) → News h₀ env.locals h (Led c) → Q .next { s with heap := h, toks := tk }) :
    wpAny (model prog w) A (pyIter (.ref l)) (fun it s₂ => LoopAtV prog w A h₀ env x body Q E it s₂) E s := by
  refine iter_invN (fun i m nx => ∃ c, St i c ∧ nx = Led c ∧ ∀ z, z ≠ x → m z = Mp c z) hh hl hi F N ⟨c₀, h0, rfl, hm₀⟩ ?_ ?_
  · rintro i n t m₁ nx h tk own hn _ hoff ⟨c, hS, rfl, hm⟩ F₁ N₁
    rw [hadr c₀] at hoff
    refine wpAny_mono (turn i c n t h tk own hn hS hoff (fr_turn hm F₁) N₁) (fun f s₂ p => ?_) fun _ _ e => e
    rw [hadr c₀]
    exact turn_fin Led Mp St hadr p
  · rintro m₁ nx h tk ⟨c, hS, rfl, hm⟩ F₁ N₁
    exact done c m₁ h tk hS (fr_out hm F₁) N₁

/-- for x in bytes -/
theorem for_bytes {σ : Type} {b : Array UInt8} {tb : Tok} {m₀ : Str → Option Value} {adr : List Addr} (Led : σ → List (Addr × Obj)) (Mp : σ → Str → Option Value) (St : Nat → σ → Prop) (c₀ : σ) (hadr : ∀ c, (Led c).map (·.1) = adr)
    (hh : A.handled = none) (F : Fr h₀ env.locals s.heap m₀) (N : News h₀ env.locals s.heap (Led c₀)) (hm₀ : ∀ z, z ≠ x → m₀ z = Mp c₀ z) (h0 : St 0 c₀)
    (turn : ∀ i (c : σ) (n : UInt8) t h tk own, b[i]? = some n → St i c → OwnOff own adr → Fr h₀ env.locals h (fun y => if y = x then some (.int (n.toNat : Int) t) else Mp c y) → News h₀ env.locals h (Led c ++ own) →
      wpAny (model prog w) A (execs body env) (TurnEnd h₀ env.locals x Led Mp (St (i + 1)) own { s with heap := h, toks := tk } Q) E { s with heap := h, toks := tk })
    (done : ∀ (c : σ) (u : Str → Option Value) h tk, St b.size c → Fr h₀ env.locals h (fun y => if y = x then u y else Mp c y) → News h₀ env.locals h (Led c) → Q .next { s with heap := h, toks := tk }) :
    wpAny (model prog w) A (pyIter (.bytes b tb)) (fun it s₂ => LoopAtV prog w A h₀ env x body Q E it s₂) E s := by
  refine KBw.pyIter_bytes ?_
  have W := KBw.walks (prog := prog) (w := w) hh s.heap.objs.size b tb
  refine loop_invN (fun i m nx => ∃ c, St i c ∧ nx = Led c ∧ ∀ z, z ≠ x → m z = Mp c z) W ?_ ?_ ?_ ?_ ⟨_, Heap.get?_push_size _ rfl, rfl, rfl⟩ (F.push _) (fun p hp => ⟨Heap.get?_push_of_some _ (N p hp).1, (N p hp).2⟩) ⟨c₀, h0, rfl, hm₀⟩ ?_ ?_
  · intro hm
    exact absurd F.ns.lt ((List.mem_singleton.mp hm) ▸ Nat.lt_irrefl _)
  · intro b' hb
    rw [List.mem_singleton.mp hb]
    exact next_is_new F
  · intro p hp hI
    exact absurd (Heap.lt_size (N p hp).1) ((List.mem_singleton.mp hI) ▸ Nat.lt_irrefl _)
  · intro p hp hI
    exact absurd (Heap.lt_size (N p hp).1) ((List.mem_singleton.mp hI) ▸ Nat.lt_irrefl _)
  · rintro i v m₁ nx h tk own hi ⟨n, u, hn, rfl⟩ _ hoff ⟨c, hS, rfl, hm⟩ F₁ N₁
    rw [hadr c₀] at hoff
    refine wpAny_mono (turn i c n u h tk own hn hS hoff (fr_turn hm F₁) N₁) (fun f s₂ p => ?_) fun _ _ e => e
    rw [hadr c₀]
    exact turn_fin Led Mp St hadr p
  · rintro m₁ nx h tk ⟨c, hS, rfl, hm⟩ F₁ N₁
    exact done c m₁ h tk hS (fr_out hm F₁) N₁

/-- a loop over ints that turns one cell -/
theorem for_ints_cell {l a : Addr} {o₀ : Obj} {vs : List Value} {ns : List Int} {m₀ : Str → Option Value} (g : Int → Int → Int) {v₀ : Int} {t₀ : Tok}
    (hh : A.handled = none) (hl : h₀.IsList l vs.toArray) (hi : IntsAre vs ns) (F : Fr h₀ env.locals s.heap m₀) (N : News h₀ env.locals s.heap [(a, o₀)]) (h0 : o₀.data = .cell (some (.int v₀ t₀)))
    (turn : ∀ (k : Nat) (o : Obj) (n : Int) t tc h tk own, ns[k]? = some n → o.data = .cell (some (.int ((ns.take k).foldl g v₀) tc)) → OwnOff own [a] → Fr h₀ env.locals h (fun y => if y = x then some (.int n t) else m₀ y) → News h₀ env.locals h ((a, o) :: own) →
      wpAny (model prog w) A (execs body env) (TurnEnd h₀ env.locals x (fun o => [(a, o)]) (fun _ => m₀) (fun o : Obj => ∃ t, o.data = .cell (some (.int (g ((ns.take k).foldl g v₀) n) t))) own { s with heap := h, toks := tk } Q) E { s with heap := h, toks := tk })
    (done : ∀ (o : Obj) (u : Str → Option Value) tc h tk, o.data = .cell (some (.int (ns.foldl g v₀) tc)) → Fr h₀ env.locals h (fun y => if y = x then u y else m₀ y) → News h₀ env.locals h [(a, o)] → Q .next { s with heap := h, toks := tk }) :
    wpAny (model prog w) A (pyIter (.ref l)) (fun it s₂ => LoopAtV prog w A h₀ env x body Q E it s₂) E s := by
  refine for_ints (σ := Obj) (adr := [a]) (fun o => [(a, o)]) (fun _ => m₀) (fun k o => ∃ t, o.data = .cell (some (.int ((ns.take k).foldl g v₀) t))) o₀ (fun _ => rfl) hh hl hi F N (fun _ _ => rfl) ⟨t₀, h0⟩ ?_ ?_
  · rintro k o n t h tk own hn ⟨tc, hS⟩ hoff F₁ N₁
    have hs : (ns.take (k + 1)).foldl g v₀ = g ((ns.take k).foldl g v₀) n := by
      rw [List.take_add_one, hn]; simp
    rw [hs]
    exact turn k o n t tc h tk own hn hS hoff F₁ N₁
  · rintro o u h tk ⟨tc, hS⟩ F₁ N₁
    rw [List.take_length] at hS
    exact done o u tc h tk hS F₁ N₁

/-- a loop over bytes that turns one cell -/
theorem for_bytes_cell {a : Addr} {o₀ : Obj} {b : Array UInt8} {tb : Tok} {m₀ : Str → Option Value} (g : Int → Int → Int) {v₀ : Int} {t₀ : Tok}
    (hh : A.handled = none) (F : Fr h₀ env.locals s.heap m₀) (N : News h₀ env.locals s.heap [(a, o₀)]) (h0 : o₀.data = .cell (some (.int v₀ t₀)))
    (turn : ∀ (k : Nat) (o : Obj) (n : UInt8) t tc h tk own, b[k]? = some n → o.data = .cell (some (.int ((b.toList.take k).foldl (fun a n => g a (n.toNat : Int)) v₀) tc)) → OwnOff own [a] → Fr h₀ env.locals h (fun y => if y = x then some (.int (n.toNat : Int) t) else m₀ y) → News h₀ env.locals h ((a, o) :: own) →
      wpAny (model prog w) A (execs body env) (TurnEnd h₀ env.locals x (fun o => [(a, o)]) (fun _ => m₀) (fun o : Obj => ∃ t, o.data = .cell (some (.int (g ((b.toList.take k).foldl (fun a n => g a (n.toNat : Int)) v₀) (n.toNat : Int)) t))) own { s with heap := h, toks := tk } Q) E { s with heap := h, toks := tk })
    (done : ∀ (o : Obj) (u : Str → Option Value) tc h tk, o.data = .cell (some (.int (b.toList.foldl (fun a n => g a (n.toNat : Int)) v₀) tc)) → Fr h₀ env.locals h (fun y => if y = x then u y else m₀ y) → News h₀ env.locals h [(a, o)] → Q .next { s with heap := h, toks := tk }) :
    wpAny (model prog w) A (pyIter (.bytes b tb)) (fun it s₂ => LoopAtV prog w A h₀ env x body Q E it s₂) E s := by
  refine for_bytes (σ := Obj) (adr := [a]) (fun o => [(a, o)]) (fun _ => m₀) (fun k o => ∃ t, o.data = .cell (some (.int ((b.toList.take k).foldl (fun a n => g a (n.toNat : Int)) v₀) t))) o₀ (fun _ => rfl) hh F N (fun _ _ => rfl) ⟨t₀, h0⟩ ?_ ?_
  · rintro k o n t h tk own hn ⟨tc, hS⟩ hoff F₁ N₁
    have hn' : b.toList[k]? = some n := by rw [Array.getElem?_toList]; exact hn
    have hs : (b.toList.take (k + 1)).foldl (fun a n => g a (n.toNat : Int)) v₀ = g ((b.toList.take k).foldl (fun a n => g a (n.toNat : Int)) v₀) (n.toNat : Int) := by
      rw [List.take_add_one, hn']; simp
    rw [hs]
    exact turn k o n t tc h tk own hn hS hoff F₁ N₁
  · rintro o u h tk ⟨tc, hS⟩ F₁ N₁
    rw [show b.size = b.toList.length by simp, List.take_length] at hS
    exact done o u tc h tk hS F₁ N₁

/-- the state of the encoder's loop: the list's values, its mark, the two ints with their tokens -/
structure B2 where
  ys : List Value
  n : Nat
  lc : Int
  t1 : Tok
  lb : Int
  t2 : Tok

/-- the loop of b2a_base64: a list grown and two ints turned -/
theorem for_bytes_b2a {a : Addr} {b : Array UInt8} {tb : Tok} {m₀ : Str → Option Value} {y1 y2 : Str} (St : Nat → B2 → Prop) (c₀ : B2)
    (hh : A.handled = none) (F : Fr h₀ env.locals s.heap m₀) (N : News h₀ env.locals s.heap [(a, W.listOf c₀.ys.toArray c₀.n)]) (h1 : m₀ y1 = some (.int c₀.lc c₀.t1)) (h2 : m₀ y2 = some (.int c₀.lb c₀.t2)) (h0 : St 0 c₀)
    (turn : ∀ (k : Nat) (c : B2) (n : UInt8) t h tk own, b[k]? = some n → St k c → OwnOff own [a] →
      Fr h₀ env.locals h (fun y => if y = x then some (.int (n.toNat : Int) t) else if y = y1 then some (.int c.lc c.t1) else if y = y2 then some (.int c.lb c.t2) else m₀ y) → News h₀ env.locals h ((a, W.listOf c.ys.toArray c.n) :: own) →
      wpAny (model prog w) A (execs body env) (TurnEnd h₀ env.locals x (fun c : B2 => [(a, W.listOf c.ys.toArray c.n)]) (fun c : B2 => fun y => if y = y1 then some (.int c.lc c.t1) else if y = y2 then some (.int c.lb c.t2) else m₀ y) (St (k + 1)) own { s with heap := h, toks := tk } Q) E { s with heap := h, toks := tk })
    (done : ∀ (c : B2) (u : Str → Option Value) h tk, St b.size c → Fr h₀ env.locals h (fun y => if y = x then u y else if y = y1 then some (.int c.lc c.t1) else if y = y2 then some (.int c.lb c.t2) else m₀ y) → News h₀ env.locals h [(a, W.listOf c.ys.toArray c.n)] → Q .next { s with heap := h, toks := tk }) :
    wpAny (model prog w) A (pyIter (.bytes b tb)) (fun it s₂ => LoopAtV prog w A h₀ env x body Q E it s₂) E s := by
  refine for_bytes (σ := B2) (adr := [a]) (fun c => [(a, W.listOf c.ys.toArray c.n)]) (fun c y => if y = y1 then some (.int c.lc c.t1) else if y = y2 then some (.int c.lb c.t2) else m₀ y) St c₀ (fun _ => rfl) hh F N ?_ h0 turn done
  intro z _
  by_cases e1 : z = y1
  · subst e1; rw [if_pos rfl, h1]
  · rw [if_neg e1]
    by_cases e2 : z = y2
    · subst e2; rw [if_pos rfl, h2]
    · rw [if_neg e2]
theorem turn_b2 {L a : Addr} {own : List (Addr × Obj)} {h' : Heap} {tk' : Nat} {m' m₀ : Str → Option Value} {y1 y2 : Str} {St : B2 → Prop} (c : B2) (F : Fr h₀ L h' m') (e1 : m' y1 = some (.int c.lc c.t1)) (e2 : m' y2 = some (.int c.lb c.t2))
    (hm : ∀ z, z ≠ x → z ≠ y1 → z ≠ y2 → m' z = m₀ z) (N : News h₀ L h' ((a, W.listOf c.ys.toArray c.n) :: own)) (hS : St c) :
    TurnEnd h₀ L x (fun c : B2 => [(a, W.listOf c.ys.toArray c.n)]) (fun c : B2 => fun y => if y = y1 then some (.int c.lc c.t1) else if y = y2 then some (.int c.lb c.t2) else m₀ y) St own s Q .next { s with heap := h', toks := tk' } := by
  refine TurnEnd.next c F (fun z hz => ?_) N hS
  by_cases h1 : z = y1
  · subst h1; rw [if_pos rfl]; exact e1
  · rw [if_neg h1]
    by_cases h2 : z = y2
    · subst h2; rw [if_pos rfl]; exact e2
    · rw [if_neg h2]; exact hm z hz h1 h2
/-- the state of the decoder's loop -/
structure A2 where
  ys : List Value
  n : Nat
  qp : Int
  t1 : Tok
  lc : Int
  t2 : Tok
  pd : Int
  t3 : Tok
  ix : Int
  t4 : Tok
abbrev A2.mp (y1 y2 y3 y4 : Str) (m₀ : Str → Option Value) (c : A2) : Str → Option Value := fun y => if y = y1 then some (.int c.qp c.t1) else if y = y2 then some (.int c.lc c.t2) else if y = y3 then some (.int c.pd c.t3) else if y = y4 then some (.int c.ix c.t4) else m₀ y
theorem A2.mp_eq {y1 y2 y3 y4 : Str} {m₀ m' : Str → Option Value} {c : A2} (e1 : m' y1 = some (.int c.qp c.t1)) (e2 : m' y2 = some (.int c.lc c.t2)) (e3 : m' y3 = some (.int c.pd c.t3)) (e4 : m' y4 = some (.int c.ix c.t4))
    {z : Str} (hm : z ≠ y1 → z ≠ y2 → z ≠ y3 → z ≠ y4 → m' z = m₀ z) : m' z = A2.mp y1 y2 y3 y4 m₀ c z := by
  by_cases h1 : z = y1
  · subst h1; exact e1.trans (if_pos rfl).symm
  by_cases h2 : z = y2
  · subst h2; exact e2.trans ((if_neg h1).trans (if_pos rfl)).symm
  by_cases h3 : z = y3
  · subst h3; exact e3.trans ((if_neg h1).trans ((if_neg h2).trans (if_pos rfl))).symm
  by_cases h4 : z = y4
  · subst h4; exact e4.trans ((if_neg h1).trans ((if_neg h2).trans ((if_neg h3).trans (if_pos rfl)))).symm
  exact (hm h1 h2 h3 h4).trans ((if_neg h1).trans ((if_neg h2).trans ((if_neg h3).trans (if_neg h4)))).symm

/-- the loop of a2b_base64 -/
theorem for_bytes_a2b {a : Addr} {b : Array UInt8} {tb : Tok} {m₀ : Str → Option Value} {y1 y2 y3 y4 : Str} (St : Nat → A2 → Prop) (c₀ : A2)
    (hh : A.handled = none) (F : Fr h₀ env.locals s.heap m₀) (N : News h₀ env.locals s.heap [(a, W.listOf c₀.ys.toArray c₀.n)]) (h1 : m₀ y1 = some (.int c₀.qp c₀.t1)) (h2 : m₀ y2 = some (.int c₀.lc c₀.t2)) (h3 : m₀ y3 = some (.int c₀.pd c₀.t3)) (h4 : m₀ y4 = some (.int c₀.ix c₀.t4)) (h0 : St 0 c₀)
    (turn : ∀ (k : Nat) (c : A2) (n : UInt8) t h tk own, b[k]? = some n → St k c → OwnOff own [a] →
      Fr h₀ env.locals h (fun y => if y = x then some (.int (n.toNat : Int) t) else A2.mp y1 y2 y3 y4 m₀ c y) → News h₀ env.locals h ((a, W.listOf c.ys.toArray c.n) :: own) →
      wpAny (model prog w) A (execs body env) (TurnEnd h₀ env.locals x (fun c : A2 => [(a, W.listOf c.ys.toArray c.n)]) (A2.mp y1 y2 y3 y4 m₀) (St (k + 1)) own { s with heap := h, toks := tk } Q) E { s with heap := h, toks := tk })
    (done : ∀ (c : A2) (u : Str → Option Value) h tk, St b.size c → Fr h₀ env.locals h (fun y => if y = x then u y else A2.mp y1 y2 y3 y4 m₀ c y) → News h₀ env.locals h [(a, W.listOf c.ys.toArray c.n)] → Q .next { s with heap := h, toks := tk }) :
    wpAny (model prog w) A (pyIter (.bytes b tb)) (fun it s₂ => LoopAtV prog w A h₀ env x body Q E it s₂) E s :=
  for_bytes (σ := A2) (adr := [a]) (fun c => [(a, W.listOf c.ys.toArray c.n)]) (A2.mp y1 y2 y3 y4 m₀) St c₀ (fun _ => rfl) hh F N (fun _ _ => A2.mp_eq h1 h2 h3 h4 fun _ _ _ _ => rfl) h0 turn done

theorem turn_a2 {L a : Addr} {own : List (Addr × Obj)} {h' : Heap} {tk' : Nat} {m' m₀ : Str → Option Value} {y1 y2 y3 y4 : Str} {St : A2 → Prop} {f : Flow} (hf : f = .next ∨ f = .cont) (c : A2) (F : Fr h₀ L h' m') (e1 : m' y1 = some (.int c.qp c.t1)) (e2 : m' y2 = some (.int c.lc c.t2)) (e3 : m' y3 = some (.int c.pd c.t3)) (e4 : m' y4 = some (.int c.ix c.t4))
    (hm : ∀ z, z ≠ x → z ≠ y1 → z ≠ y2 → z ≠ y3 → z ≠ y4 → m' z = m₀ z) (N : News h₀ L h' ((a, W.listOf c.ys.toArray c.n) :: own)) (hS : St c) :
    TurnEnd h₀ L x (fun c : A2 => [(a, W.listOf c.ys.toArray c.n)]) (A2.mp y1 y2 y3 y4 m₀) St own s Q f { s with heap := h', toks := tk' } := by
  rcases hf with rfl | rfl
  · exact TurnEnd.next c F (fun z hz => A2.mp_eq e1 e2 e3 e4 (hm z hz)) N hS
  · exact TurnEnd.cont c F (fun z hz => A2.mp_eq e1 e2 e3 e4 (hm z hz)) N hS
end
local macro_rules | `(tactic| walk_at "my turn") => `(tactic| (refine' TurnEnd.next ?c ?hF ?hm ?hN ?hS; (case hF => k_asm); (case hN => k_asm); (case hm => exact fun _ hz => if_neg hz); (case hS => exact ⟨_, by assumption⟩)))
local macro_rules | `(tactic| walk_at "my b2") => `(tactic| (refine' turn_b2 ⟨_, _, _, _, _, _⟩ ?hF ?he1 ?he2 ?hm ?hN ?hS; (case hF => k_asm); (case he1 => with_unfolding_all rfl); (case he2 => with_unfolding_all rfl); (case hm => (intro z h0 h1 h2; (repeat (first | with_reducible rfl | refine (if_neg (by assumption)).trans ?_)))); (case hN => k_asm)))
local macro_rules | `(tactic| walk_at "my a2") => `(tactic| (refine' turn_a2 ?hf ⟨_, _, _, _, _, _, _, _, _, _⟩ ?hF ?he1 ?he2 ?he3 ?he4 ?hm ?hN ?hS; (case hf => first | exact .inl rfl | exact .inr rfl); (case hF => k_asm); (case he1 => with_unfolding_all rfl); (case he2 => with_unfolding_all rfl); (case he3 => with_unfolding_all rfl); (case he4 => with_unfolding_all rfl); (case hm => (intro z h0 h1 h2 h3 h4; (repeat (first | with_reducible rfl | refine (if_neg (by assumption)).trans ?_)))); (case hN => k_asm)))
section XComps37
open PySem PySem.W PyProof.Rows PyProof.Rows.LCg
section
variable {prog : Program} {w : World} {A : Around} {E : Value → Shared → Prop} {s : Shared} {h₀ : Heap} {L : Addr} {m : Str → Option Value} {env : Env}

/-- what an element must come to -/
def ElEnd (news : List (Addr × Obj)) (R : Value → Prop) (y : Value) (news' : List (Addr × Obj)) : Prop := news' = news ∧ R y

theorem comp_rest {elt : Expr} {x : Str} {scope : Scope} {cl : List (Str × Addr)} {S : List (Addr × Obj) → Prop} {P : Nat → Value → Prop} {Fin : List Value → List (Addr × Obj) → Prop} {news : List (Addr × Obj)} {n : Nat} (R : Nat → Value → Prop)
    (turn : ∀ i v I oI C oC D m₂ ys h tk (E' : Value → Shared → Prop), i < n → P i v → NsObj oC m₂ → m₂ x = some v → Fr h₀ L h m → News h₀ L h ((I, oI) :: (C, oC) :: (D, lst ys) :: news) → Off3 I C D news → ((@Ne Nat I C) ∧ (@Ne Nat I D) ∧ (@Ne Nat C D)) →
      wpAny (model prog w) A (eval elt (compEnvC scope cl C env)) (CompEnd h₀ L m { s with heap := h, toks := tk } I oI C oC D (lst ys) S (fun y news' => ElEnd news (R i) y news')) E' { s with heap := h, toks := tk })
    (fin : ∀ ys, ys.length = n → (∀ i y, ys[i]? = some y → R i y) → Fin ys news) : CompRest prog w A h₀ L m env elt x scope cl s S P Fin n 0 [] news := by
  have key : ∀ (j i : Nat) (ys : List Value), i + j = n → ys.length = i → (∀ i y, ys[i]? = some y → R i y) → CompRest prog w A h₀ L m env elt x scope cl s S P Fin j i ys news := by
    intro j
    induction j with
    | zero => intro i ys hi hl hy; exact CompRest.zero (fin ys (by omega) hy)
    | succ j ih =>
      intro i ys hi hl hy
      refine CompRest.succ ?_
      intro v I oI C oC D m₂ h tk E' hv hC hx F N off ne
      refine wpAny_mono (turn i v I oI C oC D m₂ ys h tk E' (by omega) hv hC hx F N off ne) (fun y s₂ hq => ?_) fun _ _ e => e
      obtain ⟨h', tk', nw, e, F', N', off', hS, hn, hR⟩ := hq
      rw [hn] at N' off' hS
      refine ⟨h', tk', news, e, F', N', off', hS, ih (i + 1) _ (by omega) (by simp [hl]) ?_⟩
      intro k z hz
      rcases Nat.lt_or_ge k ys.length with hk | hk
      · rw [List.getElem?_append_left hk] at hz; exact hy k z hz
      · rw [List.getElem?_append_right hk] at hz
        have : k = i := by
          rcases Nat.lt_or_ge (k - ys.length) 1 with h1 | h1
          · omega
          · rw [List.getElem?_eq_none (by simpa using h1)] at hz; cases hz
        subst this
        rw [show k - ys.length = 0 by omega] at hz
        have : y = z := by simpa using hz
        rw [← this]; exact hR
  exact key n 0 [] (by omega) rfl (by intro i y h; simp at h)

/-- a comprehension over a range that falls by one -/
def DownSrc (prog : Program) (w : World) (A : Around) (h₀ : Heap) (L : Addr) (m : Str → Option Value) (env : Env) (elt : Expr) (x : Str) (scope : Scope) (cl : List (Str × Addr)) (Q : Value → Shared → Prop) (xv : Value) (s₁ : Shared) : Prop :=
  ∃ r a b t u v n news, xv = .ref r ∧ A.handled = none ∧ Fr h₀ L s₁.heap m ∧ News h₀ L s₁.heap news ∧ IsRange s₁.heap r a b (-1) t u v ∧ Builtin.Range.small a b (-1) = true ∧ Builtin.Range.rangeSize a b (-1) = ((n : Nat) : Int) ∧ n ≤ sizeLine ∧
    ∀ s₂ : Shared, (∃ h, s₂ = { s₁ with heap := h }) → CompRest prog w A h₀ L m env elt x scope cl s₂ (fun _ => True) (fun i v => ∃ t, v = .int (a + (i : Int) * (-1)) t) (FinE h₀ L m s₂ Q) n 0 [] news

theorem listcomp_down {elt iter : Expr} {x : Str} {px : Pos} {scope : Scope} {cl : List (Str × Addr)} {pos : Pos} {Q : Value → Shared → Prop} (_F₀ : Fr h₀ L s.heap m)
    (hclos : closureFor scope env = pure cl) (hcell : ∀ y ∈ scope.names, y.2 ≠ .cell) (hkind : scope.kind = .function)
    (hnames : ∀ y ∈ scope.names, y.2 = .local → scope.names.lookup y.1 = some .local) (hx : scope.names.lookup x = some .local)
    (h : wpAny (model prog w) A (eval iter env) (DownSrc prog w A h₀ L m env elt x scope cl Q) E s)
    (hs : ∀ x, foldedSetIterable iter env x = pure x := by intro _; rfl) :
    wpAny (model prog w) A (eval (.ListComp elt [⟨.Name x px, iter, [], 0⟩] scope pos) env) Q E s := by
  rw [eval_ListComp]
  refine wpAny_comprehension_free (use := none) rfl hs hclos hkind hnames (wpAny_mono h (fun xv s₁ h₁ => ?_) fun _ _ e => e)
  rcases h₁ with ⟨r, a, b, t, u, v, n, news, rfl, hh, F, N, hr, hsm, hn, hsz, R⟩
  refine wpAny_pyIter_range hr hsm ?_
  have st : ∀ i (h h' : Heap) (o : Obj) (nw : List (Addr × Obj)), IsRangeIter h s₁.heap.objs.size (a + (i : Nat) * (-1)) ((n : Int) - (i : Nat)) (-1) → h.get? s₁.heap.objs.size = some o → h'.get? s₁.heap.objs.size = some o → (∀ b o, h₀.get? b = some o → h'.get? b = some o) → News h₀ L h' nw → True → IsRangeIter h' s₁.heap.objs.size (a + (i : Nat) * (-1)) ((n : Int) - (i : Nat)) (-1) :=
    fun i h h' o nw st e e' _ _ _ => by
      have st' : h.get? s₁.heap.objs.size = some _ := st
      show h'.get? s₁.heap.objs.size = some _
      rw [e', ← e]; exact st'
  refine block_U (Walks.range hh _ a (-1) n) hsz (fun i h st => ⟨_, st⟩) st hcell hkind hx (by show IsRangeIter _ _ _ _ _; rw [hn]; simpa using Heap.get?_push_size _ rfl) (fun b hb => ?_)
    (F.keeps fun _ _ e => Heap.get?_push_of_some _ e) (N.grown fun _ _ e => Heap.get?_push_of_some _ e) (Nat.ne_of_lt F.ns.lt) (next_is_new F) (fun p hp => Nat.ne_of_lt (Heap.lt_size (N p hp).1)) trivial (R _ ⟨_, rfl⟩) ?_
  · rw [List.mem_singleton.mp hb]
    show s₁.heap.objs.size < (s₁.heap.push _).objs.size
    rw [Heap.size_push]; exact Nat.lt_succ_self _
  · intro D C h tk m' ys news' F' N' o1 hn hC₀ hD₀ hCL hDL hCD offC fin
    refine ⟨m', hn, fun h'' hs'' => fin D h'' tk (F'.change hs'' hCL hC₀) (fun p hp => ?_) o1⟩
    refine ⟨hs''.extBut _ _ ?_ (N' p hp).1, (N' p hp).2⟩
    rcases List.mem_cons.mp hp with rfl | hp
    · exact Ne.symm hCD
    · exact offC p hp

theorem ints_of {ys : List Value} {n : Nat} {f : Nat → Int} (hl : ys.length = n) (hy : ∀ (i : Nat) (y : Value), ys[i]? = some y → ∃ t, y = Value.int (f i) t) : IntsAre ys ((List.range n).map f) := by
  induction ys generalizing n f with
  | nil => subst hl; exact .nil
  | cons y r ih =>
    subst hl
    obtain ⟨t, rfl⟩ := hy 0 y rfl
    rw [List.length_cons, List.range_succ_eq_map, List.map_cons, List.map_map]
    exact .cons _ _ (ih rfl fun i z hz => hy (i + 1) z (by simpa using hz))
theorem strs_of {ys : List Value} {n : Nat} {f : Nat → Str} (hl : ys.length = n) (hy : ∀ (i : Nat) (y : Value), ys[i]? = some y → ∃ t, y = Value.str (f i) t) : StrsAre ys ((List.range n).map f) := by
  induction ys generalizing n f with
  | nil => subst hl; exact .nil
  | cons y r ih =>
    subst hl
    obtain ⟨t, rfl⟩ := hy 0 y rfl
    rw [List.length_cons, List.range_succ_eq_map, List.map_cons, List.map_map]
    exact .cons _ _ (ih rfl fun i z hz => hy (i + 1) z (by simpa using hz))
theorem down_nat (n i : Nat) : ((n : Int) - 1 + (i : Int) * (-1)).toNat = n - 1 - i := by omega
theorem range_size_down {a b : Int} {n : Nat} (h : a - b = (n : Int)) : Builtin.Range.rangeSize a b (-1) = (n : Int) := by
  unfold Builtin.Range.rangeSize
  simp
  split <;> omega
end
section
variable {M : Model} {A : Around} {env : Env} {x : Str} {Q : Unit → Shared → Prop} {E : Value → Shared → Prop} {s : Shared}
theorem st_int {v : Int} {T : Tok} (H : ∀ t, wpAny M A (storeName env x (.int v t)) Q E s) : wpAny M A (storeName env x (.int v T)) Q E s := H T
theorem st_str {v : Str} {T : Tok} (H : ∀ t, wpAny M A (storeName env x (.str v t)) Q E s) : wpAny M A (storeName env x (.str v T)) Q E s := H T
theorem st_bytes {v : Array UInt8} {T : Tok} (H : ∀ t, wpAny M A (storeName env x (.bytes v t)) Q E s) : wpAny M A (storeName env x (.bytes v T)) Q E s := H T
end
theorem words4 : True := by
  k_with "storeName" => (k_here; first
    | ((with_reducible show wpAny _ _ (storeName _ _ (Value.int _ (Shared.toks _))) _ _ _); refine st_int ?_; intro tkq)
    | ((with_reducible show wpAny _ _ (storeName _ _ (Value.str _ (Shared.toks _))) _ _ _); refine st_str ?_; intro tkq)
    | ((with_reducible show wpAny _ _ (storeName _ _ (Value.bytes _ (Shared.toks _))) _ _ _); refine st_bytes ?_; intro tkq))
  k_with "eval ListComp" => (k_here; (with_reducible show wpAny _ _ (eval (Expr.ListComp _ [⟨_, Expr.Call _ (_ :: _ :: _ :: []) _ _, _, _⟩] _ _) _) _ _ _); k_dflt (refine listcomp_down (_F₀ := by k_asm) (by with_unfolding_all rfl) (by decide) (by rfl) (by decide) (by rfl) ?_))
  trivial
end XComps37
set_option maxRecDepth 100000
theorem bitOr_pp {x y : Int} (hx : 0 ≤ x) (hy : 0 ≤ y) : Builtin.bitOr x y = ((x.toNat ||| y.toNat : Nat) : Int) := by
  have n1 : ¬ 0 ≤ Builtin.bitNot x := by show ¬ 0 ≤ -x - 1; omega
  have n2 : ¬ 0 ≤ Builtin.bitNot y := by show ¬ 0 ≤ -y - 1; omega
  have nn : ∀ z : Int, Builtin.bitNot (Builtin.bitNot z) = z := by intro z; show -(-z - 1) - 1 = z; omega
  unfold Builtin.bitOr
  rw [bitAnd_nn n1 n2, nn, nn, nn]
theorem bor_shift {a n : Int} (k : Nat) (ha : 0 ≤ a) (hn : 0 ≤ n) (hk : n < 2 ^ k) : Builtin.bitOr (a * 2 ^ k) n = a * 2 ^ k + n := by
  have hp := kbt_pos k
  rw [bitOr_pp (Int.mul_nonneg ha (Int.le_of_lt hp)) hn]
  obtain ⟨a, rfl⟩ := Int.eq_ofNat_of_zero_le ha
  obtain ⟨n, rfl⟩ := Int.eq_ofNat_of_zero_le hn
  have e : ((a : Int) * 2 ^ k) = ((2 ^ k * a : Nat) : Int) := by push_cast; rw [Int.mul_comm]
  rw [e]
  have hn' : n < 2 ^ k := by exact_mod_cast hk
  rw [Int.toNat_natCast, Int.toNat_natCast, ← Nat.two_pow_add_eq_or_of_lt hn']
  push_cast; rfl
theorem band_63 (z : Int) : Builtin.bitAnd z 63 = z % 64 := kbt_mask z 6
theorem band_3 (z : Int) : Builtin.bitAnd z 3 = z % 4 := kbt_mask z 2
theorem band_15 (z : Int) : Builtin.bitAnd z 15 = z % 16 := kbt_mask z 4
theorem band_16 (z : Int) : Builtin.bitAnd z 65535 = z % 65536 := kbt_mask z 16

def b64I (n : Int) : Int := if n < 26 then n + 65 else if n < 52 then n + 71 else if n < 62 then n - 4 else if n = 62 then 43 else 47
def b64L : List UInt8 := [65, 66, 67, 68, 69, 70, 71, 72, 73, 74, 75, 76, 77, 78, 79, 80, 81, 82, 83, 84, 85, 86, 87, 88, 89, 90, 97, 98, 99, 100, 101, 102, 103, 104, 105, 106, 107, 108, 109, 110, 111, 112, 113, 114, 115, 116, 117, 118, 119, 120, 121, 122, 48, 49, 50, 51, 52, 53, 54, 55, 56, 57, 43, 47]
theorem b64L_at : ∀ n : Nat, n < 64 → (((b64L.getD n 0).toNat : Nat) : Int) = b64I (n : Int) := by decide +kernel
section
variable {prog : Program} {w : World} {A : Around} {E : Value → Shared → Prop} {s : Shared} {Q : Value → Shared → Prop} {value slice : Expr} {t ui : Tok}
theorem b64_item {i j : Int} (e : i = j) (h0 : 0 ≤ j) (h1 : j < 64) (h : Q (.int (b64I j) s.toks) { s with toks := s.toks + 1 })
    (hs : subscripted slice false (.bytes b64L.toArray t) (.int i ui) = operate [.bytes b64L.toArray t, .int i ui] (getItem (.bytes b64L.toArray t) (.int i ui)) := by with_unfolding_all rfl)
    (ht : ∀ r, letTemporaryGo value (.bytes b64L.toArray t) r = pure () := by intro _; with_unfolding_all rfl) :
    wpAny (model prog w) A (subscriptTail value slice (.bytes b64L.toArray t) (.int i ui)) Q E s := by
  subst e
  have hj : (((b64L.getD i.toNat 0).toNat : Nat) : Int) = b64I i := by
    rw [b64L_at i.toNat (by omega), Int.toNat_of_nonneg h0]
  exact KBy.item_N (by decide) h0 (by show i < ((64 : Nat) : Int); omega) (by rw [hj]; exact h) hs ht
end
section SC
theorem words5 : True := by
  k_with_none
  k_with "my fill" => (dsimp only [ConV, ConG]; k_fill; w_on)
  k_with "my enter" => (refine wpAny_call ?_; w_strict (k_dflt first
    | (refine' enter_plain ?zq5x1k1 ?zq5x1k2 ?zq5x1k3 ?zq5x1k5 ?zq5x1kA ?zq5x1kF ?zq5x1kK ?zq5x1k6 ?zq5x1k7 ?zq5x1k8 ?zq5x1k9 ?zq5x1kB ?_ ?zq5x1c2 ?zq5x1c3 ?zq5x1c4 ?zq5x1c5; (case zq5x1kA => exact rfl); (case zq5x1kF => exact rfl); (case zq5x1kK => assumption); (case zq5x1k1 => k_asm); (case zq5x1k2 => k_asm); (case zq5x1k3 => k_asm); (case zq5x1k5 => k_asm); (case zq5x1k6 => k_is); (case zq5x1k7 => k_is); (case zq5x1k8 => ktr_room); (case zq5x1k9 => first | exact BindsTo.of_eq rfl | exact binds_K (by k_in) rfl (by k_is) rfl rfl rfl | fail "k_enter: no rule for these arguments"); (case zq5x1c5 => decide); (case zq5x1kB => exact locs rfl); (case zq5x1c2 => exact rfl); (case zq5x1c3 => exact rfl); (case zq5x1c4 => exact rfl); k_whole; intro L' h' F' N' B' X' T'; (try dsimp only); (try k_lift B'); (try k_fold))
    | (refine' enter_cells ?zq5x1k1 ?zq5x1k2 ?zq5x1k3 ?zq5x1k5 ?zq5x1kA ?zq5x1kF ?zq5x1kK ?zq5x1k6 ?zq5x1k7 ?zq5x1k8 ?zq5x1k9 ?zq5x1kB ?zq5x1kD ?_ ?zq5x1c2 ?zq5x1c3 ?zq5x1c4; (case zq5x1kA => exact rfl); (case zq5x1kF => exact rfl); (case zq5x1kK => assumption); (case zq5x1k1 => k_asm); (case zq5x1k2 => k_asm); (case zq5x1k3 => k_asm); (case zq5x1k5 => k_asm); (case zq5x1k6 => k_is); (case zq5x1k7 => k_is); (case zq5x1k8 => ktr_room); (case zq5x1k9 => first | exact BindsTo.of_eq rfl | exact binds_K (by k_in) rfl (by k_is) rfl rfl rfl | fail "k_enter: no rule for these arguments"); (case zq5x1kB => exact rfl); (case zq5x1kD => decide +kernel); (case zq5x1c2 => exact rfl); (case zq5x1c3 => exact rfl); (case zq5x1c4 => exact rfl); k_whole; intro L' h' tk' cells' F' N' Y' B' X' T'; k_cells Y'; (try simp only [List.cons_append, List.nil_append] at N'); (try dsimp only); (try k_lift B'); (try k_fold))))
  k_with "my end" => ((try dsimp only); (try k_unfold); (try dsimp only))
  k_with "binaryOp Mult int int" => (k_here; (with_reducible refine mul2pow ?zq5x3kfd ?_); (case zq5x3kfd => omega))
  k_with "binaryOp FloorDiv int int" => (k_here; first
    | ((with_reducible refine fdiv256 ?zq5x4kfd ?_); (case zq5x4kfd => omega))
    | ((with_reducible refine fdiv64 ?zq5x4kfd ?_); (case zq5x4kfd => omega)))
  k_with "call type:type" => (k_here; (with_reducible show wpAny _ _ (call _ [Value.bytes _ _]) _ _ _); refine call_type_of (Tx := "bytes") rfl (by decide +kernel) ?_)
  k_with "getMethod str" => (k_here; with_reducible refine getm_encode ?_)
  k_with "getMethod bytes" => (k_here; with_reducible refine getm_translate ?_)
  k_with "call builtin:str.encode" => (k_here; k_dflt (refine call_encode (by assumption) (by first | assumption | omega) ?_); intro _ _)
  k_with "call builtin:bytes.translate" => (k_here; k_dflt (refine call_translate ?zq5x9kt ?zq5x9kz ?_); (case zq5x9kt => exact transTab_size _ _); (case zq5x9kz => first | assumption | omega); intro _ _)
  k_with "getMethod type:bytes" => (k_here; refine' method_type ?zq5x10F ?zq5x10X ?zq5x10m (by decide +kernel) ?zq5x10e ?zq5x10h ?_; (case zq5x10F => k_asm); (case zq5x10X => k_asm); (case zq5x10m => (show typeOf (.type "bytes") = _; first | rfl | kernel_rfl)); (case zq5x10e => k_dflt k_is); (case zq5x10h => k_handed))
  k_with "call builtin:bytes.maketrans" => (k_here; k_dflt (refine call_maketransA ?zq5x11ke ?_); (case zq5x11ke => first | assumption | rfl | omega | simp_all); intro _ _)
  k_with "call type:bytes" => (k_here; (with_reducible show wpAny _ _ (call (Value.type _) [Value.ref _]) _ _ _); k_dflt (refine' bytes_K ?zq5x12F ?zq5x12N ?zq5x12l ?zq5x12i ?zq5x12r ?zq5x12z ?zq5x12h ?_; (case zq5x12F => k_asm); (case zq5x12N => k_asm); (case zq5x12l => exact News.isList (by k_asm) (by k_mem)); (case zq5x12i => assumption); (case zq5x12r => assumption); (case zq5x12z => ((have hiz := IntsAre.length (by assumption)); rw [sizeLine_eq]; omega)); (case zq5x12h => with_unfolding_all rfl); k_whole); intro h' t' k' F' N' hB'; clear hB'; (try k_sweep))
  k_with "storeName" => (k_here; first
    | ((with_reducible show wpAny _ _ (storeName _ _ (Value.int _ (Shared.toks _))) _ _ _); refine st_int ?_; intro tkq)
    | ((with_reducible show wpAny _ _ (storeName _ _ (Value.str _ (Shared.toks _))) _ _ _); refine st_str ?_; intro tkq)
    | ((with_reducible show wpAny _ _ (storeName _ _ (Value.bytes _ (Shared.toks _))) _ _ _); refine st_bytes ?_; intro tkq))
  k_with "eval ListComp" => (k_here; (with_reducible show wpAny _ _ (eval (Expr.ListComp _ [⟨_, Expr.Call _ (_ :: _ :: _ :: []) _ _, _, _⟩] _ _) _) _ _ _); k_dflt (refine listcomp_down (_F₀ := by k_asm) (by with_unfolding_all rfl) (by decide) (by rfl) (by decide) (by rfl) ?_))
  trivial
set_option maxRecDepth 100000
set_option maxHeartbeats 4000000

theorem c_figure (w : World) (x : Int) (tx : Tok) : ConV w 1 8 143 [.int x tx] [] (fun _ => True) (fun t => .int (if x % 4 < 2 then 62 + x % 4 else x / 4 % 64) t) := by
  walk_at "my fill"
  intro mean mg mb dp un gd cn cs a ccd cl outer A₀ base h₀ L m s Q E B F X T hk hd hu hp hret
  refine wpAny_with_toks (Nat.le_refl _) ?_
  walk_at "my enter"
  k_steps
  all_goals walk_at "my end"
  all_goals (try intro ht)
  all_goals refine ret_int hret ?_ (by assumption) (Fr.keep (by k_asm))
  all_goals simp only [Int.fmod_eq_emod_of_nonneg _ (by decide : (0 : Int) ≤ 4), Int.fmod_eq_emod_of_nonneg _ (by decide : (0 : Int) ≤ 64), Int.fdiv_eq_ediv_of_nonneg _ (by decide : (0 : Int) ≤ 4)] at *
  · rw [if_pos (by assumption)]
  · rw [if_neg (by assumption)]

theorem c_truth (w : World) (x : Bool) : ConV w 1 8 97 [.bool x] [] (fun _ => True) (fun _ => .bool x) := by
  walk_at "my fill"
  intro mean mg mb dp un gd cn cs a ccd cl outer A₀ base h₀ L m s Q E B F X T hk hd hu hp hret
  refine wpAny_with_toks (Nat.le_refl _) ?_
  walk_at "my enter"
  k_steps
  all_goals walk_at "my end"
  all_goals (try intro ht)
  all_goals (refine ret_bool hret ?_ (by assumption) (Fr.keep (by k_asm)))
  all_goals (first | (exact Eq.symm (by assumption)) | assumption | skip)

theorem c_buffer (w : World) (b : Array UInt8) (t : Tok) : ConV w 1 8 90 [.bytes b t] [] (fun _ => True) (fun _ => .bytes b t) := by
  walk_at "my fill"
  intro mean mg mb dp un gd cn cs a ccd cl outer A₀ base h₀ L m s Q E B F X T hk hd hu hp hret
  refine wpAny_with_toks (Nat.le_refl _) ?_
  walk_at "my enter"
  k_steps
  all_goals walk_at "my end"
  all_goals (try intro ht)
  all_goals exact hret 0 _ _ (by assumption) (Fr.keep (by k_asm))

theorem c_abuffer (w : World) (b : Array UInt8) (t : Tok) : ConV w 1 8 83 [.bytes b t] [] (fun _ => True) (fun _ => .bytes b t) := by
  walk_at "my fill"
  intro mean mg mb dp un gd cn cs a ccd cl outer A₀ base h₀ L m s Q E B F X T hk hd hu hp hret
  refine wpAny_with_toks (Nat.le_refl _) ?_
  walk_at "my enter"
  k_steps
  all_goals walk_at "my end"
  all_goals (try intro ht)
  all_goals exact hret 0 _ _ (by assumption) (Fr.keep (by k_asm))

theorem c_frombytes (w : World) (b : Array UInt8) (t : Tok) : ConV w 1 8 63 [.bytes b t] [] (fun _ => True) (fun _ => .bytes b t) := by
  walk_at "my fill"
  intro mean mg mb dp un gd cn cs a ccd cl outer A₀ base h₀ L m s Q E B F X T hk hd hu hp hret
  refine wpAny_with_toks (Nat.le_refl _) ?_
  walk_at "my enter"
  k_steps
  all_goals walk_at "my end"
  all_goals (try intro ht)
  all_goals exact hret 0 _ _ (by assumption) (Fr.keep (by k_asm))

theorem c_fromstr (w : World) (x : Str) (t : Tok) (h : ∀ c ∈ x.cps, c < 128) (hz : x.length ≤ 16777216) : ConV w 1 8 63 [.str x t] [] (fun _ => True) (fun t => .bytes (x.cps.map (·.toUInt8)) t) := by
  walk_at "my fill"
  intro mean mg mb dp un gd cn cs a ccd cl outer A₀ base h₀ L m s Q E B F X T hk hd hu hp hret
  refine wpAny_with_toks (Nat.le_refl _) ?_
  walk_at "my enter"
  k_steps
  all_goals walk_at "my end"
  all_goals (try intro ht)
  all_goals refine ret_bytes hret rfl (by assumption) (Fr.keep (by k_asm))
/-- a sign of base64 and its figure -/
def B64Of (x f : Int) : Prop := (65 ≤ x ∧ x ≤ 90 ∧ f = x - 65) ∨ (97 ≤ x ∧ x ≤ 122 ∧ f = x - 71) ∨ (48 ≤ x ∧ x ≤ 57 ∧ f = x + 4) ∨ (x = 43 ∧ f = 62) ∨ (x = 47 ∧ f = 63)
theorem words6 : True := by
  k_with "ite" => (k_here; first
    | refine PySem.W.ite_pos (by first | omega | ((simp only [beq_iff_eq, bne_iff_ne, decide_eq_true_eq, ne_eq]); omega)) ?_
    | refine PySem.W.ite_neg (by first | omega | ((simp only [beq_iff_eq, bne_iff_ne, decide_eq_true_eq, ne_eq]); omega)) ?_)
  trivial
theorem c_b64at (w : World) (x f : Int) (t : Tok) (h : B64Of x f) : ConV w 1 8 104 [.int x t] [] (fun _ => True) (fun t => .int f t) := by
  walk_at "my fill"
  intro mean mg mb dp un gd cn cs a ccd cl outer A₀ base h₀ L m s Q E B F X T hk hd hu hp hret
  refine wpAny_with_toks (Nat.le_refl _) ?_
  walk_at "my enter"
  rcases h with ⟨x0, x1, rfl⟩ | ⟨x0, x1, rfl⟩ | ⟨x0, x1, rfl⟩ | ⟨rfl, rfl⟩ | ⟨rfl, rfl⟩
  all_goals k_steps
  all_goals walk_at "my end"
  all_goals (try intro ht)
  all_goals exact ret_int hret rfl (by assumption) (Fr.keep (by k_asm))

set_option maxRecDepth 100000
set_option maxHeartbeats 4000000

def wfold (ns : List Int) : Int := ns.foldl (fun a n => a * 64 + n) 0
def octE (ns : List Int) (i : Nat) : Int := wfold ns / 2 ^ (6 * ns.length - 8 * (6 * ns.length / 8)) / 256 ^ (6 * ns.length / 8 - 1 - i) % 256
def octF (ns : List Int) : List Int := (List.range (6 * ns.length / 8)).map (octE ns)
theorem octF_in (ns : List Int) : ∀ n ∈ octF ns, 0 ≤ n ∧ n < 256 := by
  intro n hn
  obtain ⟨i, _, rfl⟩ := List.mem_map.mp hn
  exact ⟨Int.emod_nonneg _ (by decide), Int.emod_lt_of_pos _ (by decide)⟩
theorem octF_length (ns : List Int) : (octF ns).length = 6 * ns.length / 8 := by simp [octF]

theorem c_octets (w : World) (l : Addr) (vs : List Value) (ns : List Int) (hi : IntsAre vs ns) (hlen : ns.length ≤ 16) (hv : ∀ n ∈ ns, 0 ≤ n ∧ n < 64) : ConV w 1 16 148 [.ref l] [] (fun s => s.heap.IsList l vs.toArray) (fun t => .bytes (byteArr (octF ns)) t) := by
  walk_at "my fill"
  intro mean mg mb dp un gd cn cs a ccd cl outer A₀ base h₀ L m s Q E B F X T hk hd hu hp hret
  refine wpAny_with_toks (Nat.le_refl _) ?_
  walk_at "my enter"
  k_steps
  rename Fr _ _ _ _ => F1
  rename News _ _ _ _ => N1
  with_unfolding_all refine' For_invVF F1 ?k1 ?k2 ?_
  case k1 => exact rfl
  case k2 => exact rfl
  walk1
  rename (_ = Data.cell (some _)) => d1
  refine for_ints_cell (fun a n => a * 64 + n) rfl hp hi F1 N1 d1 ?_ ?_
  · intro k o n t tc h tk own hn d2 hoff F2 N2
    have hb := hv n (List.mem_of_getElem? hn)
    clear F1 N1 d1
    k_steps
    refine' TurnEnd.next ?c ?hF ?hm ?hN ?hS
    case hF => k_asm
    case hN => k_asm
    case hm => exact fun _ hz => if_neg hz
    case hS => exact ⟨_, by assumption⟩
  · intro o u tc h tk d2 F2 N2
    clear F1 N1 d1
    have hfd : (6 * (ns.length : Int)).fdiv 8 = ((6 * ns.length / 8 : Nat) : Int) := by rw [Int.fdiv_eq_ediv_of_nonneg _ (by decide : (0 : Int) ≤ 8)]; omega
    k_steps
    refine ⟨_, _, _, _, _, _, 6 * ns.length / 8, _, rfl, rfl, by k_asm, by k_asm, by k_asm, ?_, ?_, ?_, ?_⟩
    · exact small_down (by omega) (by omega) (by omega) (by omega)
    · refine range_size_down ?_
      rw [Int.fdiv_eq_ediv_of_nonneg _ (by decide : (0 : Int) ≤ 8)]
      omega
    · rw [sizeLine_eq]; omega
    rintro s₂ ⟨g, rfl⟩
    refine comp_rest (fun i v => ∃ t, v = .int (octE ns i) t) ?_ ?_
    · intro i v I oI C oC D m₂ ys h tk E' hi hv hC hx F3 N3 off ne
      obtain ⟨t, rfl⟩ := hv
      simp only [LCg.Off3, and_true] at off
      k_steps
      refine ⟨rfl, _, congrArg (Value.int · _) ?_⟩
      rw [hfd, Int.fmod_eq_emod_of_nonneg _ (by decide : (0 : Int) ≤ 256), Int.fdiv_eq_ediv_of_nonneg _ (Int.le_of_lt (Int.pow_pos (by decide))), Int.fdiv_eq_ediv_of_nonneg _ (Int.le_of_lt (Int.pow_pos (by decide)))]
      unfold octE wfold
      congr 3
      · exact congrArg (fun k => (2 : Int) ^ k) (Int.toNat_sub _ _)
      · exact down_nat _ _
    · intro ys hl hy D h tk F3 N3 o3
      have iA : IntsAre ys (octF ns) := ints_of hl hy
      have hr := octF_in ns
      have hlo := octF_length ns
      k_steps
      all_goals walk_at "my end"
      all_goals (try intro ht)
      all_goals refine ret_bytes hret rfl (by assumption) (Fr.keep (by k_asm))
set_option maxRecDepth 100000
set_option maxHeartbeats 4000000

def bfold (b : List UInt8) : Int := b.foldl (fun a n => a * 256 + (n.toNat : Int)) 0
def figE (b : List UInt8) (i : Nat) : Int := bfold b * 2 ^ (6 * ((8 * b.length + 5) / 6) - 8 * b.length) / 64 ^ ((8 * b.length + 5) / 6 - 1 - i) % 64
def figF (b : List UInt8) : List Int := (List.range ((8 * b.length + 5) / 6)).map (figE b)
theorem figF_in (b : List UInt8) : ∀ n ∈ figF b, 0 ≤ n ∧ n < 64 := by
  intro n hn
  obtain ⟨i, _, rfl⟩ := List.mem_map.mp hn
  exact ⟨Int.emod_nonneg _ (by decide), Int.emod_lt_of_pos _ (by decide)⟩
theorem figF_length (b : List UInt8) : (figF b).length = (8 * b.length + 5) / 6 := by simp [figF]

theorem fig_fdiv (n : Nat) : (8 * (n : Int) + 5).fdiv 6 = (((8 * n + 5) / 6 : Nat) : Int) := by rw [Int.fdiv_eq_ediv_of_nonneg _ (by decide : (0 : Int) ≤ 6)]; omega

theorem fig_bound (n : Nat) (h : n ≤ 12) : (6 * (8 * (n : Int) + 5).fdiv 6 - 8 * (n : Int)).toNat ≤ 60 := by rw [fig_fdiv]; omega
theorem words7 : True := by
  k_with "binaryOp Mult int int" => (k_here; (with_reducible refine mul2pow ?zq7x0kfd ?_); (case zq7x0kfd => exact fig_bound _ (by assumption)))
  k_with "binaryOp Pow int int" => (k_here; (with_reducible refine pow_int_small ?zq7x1kb1 ?zq7x1kb2 ?zq7x1kb3 ?_); (case zq7x1kb1 => first | omega | (rw [fig_fdiv]; omega)); (case zq7x1kb2 => first | omega | (rw [fig_fdiv]; omega)); (case zq7x1kb3 => decide))
  trivial

theorem c_figures (w : World) (b : Array UInt8) (t : Tok) (hlen : b.size ≤ 12) : ConG w 1 16 153 [.bytes b t] [] (fun _ => True) (OutInts (figF b.toList)) := by
  walk_at "my fill"
  intro mean mg mb dp un gd cn cs a ccd cl outer A₀ base h₀ L m s Q E B F X T hk hd hu hp hret
  refine wpAny_with_toks (Nat.le_refl _) ?_
  walk_at "my enter"
  k_steps
  rename Fr _ _ _ _ => F1
  rename News _ _ _ _ => N1
  rename (_ = Data.cell (some _)) => d1
  refine for_bytes_cell (fun a n => a * 256 + n) rfl F1 N1 d1 ?_ ?_
  · intro k o n t tc h tk own hn d2 hoff F2 N2
    clear F1 N1 d1
    k_steps
    walk_at "my turn"
  · intro o u tc h tk d2 F2 N2
    clear F1 N1 d1
    k_steps
    have hl8 : b.toList.length = b.size := by simp
    have hfd := fig_fdiv b.size
    refine ⟨_, _, _, _, _, _, (8 * b.size + 5) / 6, _, rfl, rfl, by k_asm, by k_asm, by k_asm, ?_, ?_, ?_, ?_⟩
    · exact small_down (by omega) (by omega) (by omega) (by omega)
    · refine range_size_down ?_
      omega
    · rw [sizeLine_eq]; omega
    rintro s₂ ⟨g, rfl⟩
    refine comp_rest (fun i v => ∃ t, v = .int (figE b.toList i) t) ?_ ?_
    · intro i v I oI C oC D m₂ ys h tk E' hi hv hC hx F3 N3 off ne
      obtain ⟨t, rfl⟩ := hv
      simp only [LCg.Off3, and_true] at off
      k_steps
      refine ⟨rfl, _, congrArg (Value.int · _) ?_⟩
      rw [hfd, Int.fmod_eq_emod_of_nonneg _ (by decide : (0 : Int) ≤ 64), Int.fdiv_eq_ediv_of_nonneg _ (Int.le_of_lt (Int.pow_pos (by decide)))]
      unfold figE bfold
      rw [hl8]
      congr 3
      · exact congrArg (fun k => (2 : Int) ^ k) (Int.toNat_sub _ _)
      · exact down_nat _ _
    · intro ys hl hy D h tk F3 N3 o3
      have iA : IntsAre ys (figF b.toList) := by
        unfold figF; rw [hl8]; exact ints_of hl hy
      k_steps
      exact hret _ _ _ (by assumption) (Fr.keep (by k_asm)) ⟨D, ys, _, rfl, (N3 _ (.head _)).1, (N3 _ (.head _)).2.2, iA⟩
theorem words8 : True := by
  k_with "call ref" => (k_here; (k_dflt (first
    | refine' use_V (c_truth _ _) ?zq8x0kB ?zq8x0kF ?zq8x0kN ?zq8x0kX ?zq8x0kT ?zq8x0kk ?zq8x0kD ?zq8x0kU ?zq8x0kp ?_
    | refine' use_V (c_buffer _ _ _) ?zq8x0kB ?zq8x0kF ?zq8x0kN ?zq8x0kX ?zq8x0kT ?zq8x0kk ?zq8x0kD ?zq8x0kU ?zq8x0kp ?_
    | refine' use_V (c_abuffer _ _ _) ?zq8x0kB ?zq8x0kF ?zq8x0kN ?zq8x0kX ?zq8x0kT ?zq8x0kk ?zq8x0kD ?zq8x0kU ?zq8x0kp ?_
    | refine' use_V (c_frombytes _ _ _) ?zq8x0kB ?zq8x0kF ?zq8x0kN ?zq8x0kX ?zq8x0kT ?zq8x0kk ?zq8x0kD ?zq8x0kU ?zq8x0kp ?_
    | (refine' use_V (c_fromstr _ _ _ ?zq8x0kh ?zq8x0kz) ?zq8x0kB ?zq8x0kF ?zq8x0kN ?zq8x0kX ?zq8x0kT ?zq8x0kk ?zq8x0kD ?zq8x0kU ?zq8x0kp ?_; (case zq8x0kh => assumption); (case zq8x0kz => first | assumption | omega))
    | refine' use_V (c_figure _ _ _) ?zq8x0kB ?zq8x0kF ?zq8x0kN ?zq8x0kX ?zq8x0kT ?zq8x0kk ?zq8x0kD ?zq8x0kU ?zq8x0kp ?_)); (case zq8x0kB => k_asm); (case zq8x0kF => k_asm); (case zq8x0kN => k_asm); (case zq8x0kX => k_asm); (case zq8x0kT => k_asm); (case zq8x0kk => first | exact rfl | assumption); (case zq8x0kD => ktr_room); (case zq8x0kU => ktr_units); (case zq8x0kp => trivial); intro t9 h9 tk9 ht9 F9 N9; (try dsimp only); (try k_sweep))
  k_with "subscriptTail" => (k_here; (with_reducible show wpAny _ _ (subscriptTail _ _ (Value.bytes _ _) (Value.int _ _)) _ _ _); (k_dflt (first
    | refine b64_item (band_63 _) (Int.emod_nonneg _ (by decide)) (Int.emod_lt_of_pos _ (by decide)) ?_
    | refine b64_item (j := Builtin.bitAnd _ 3 * 2 ^ Int.toNat 4) rfl (by rw [band_3]; simp; omega) (by rw [band_3]; simp; omega) ?_
    | refine b64_item (j := Builtin.bitAnd _ 15 * 2 ^ Int.toNat 2) rfl (by rw [band_15]; simp; omega) (by rw [band_15]; simp; omega) ?_)))
  k_with "call builtin:list.append" => (k_here; k_dflt (refine' append_K ?zq8x2k1 ?zq8x2k2 ?zq8x2k3 ?_ ?zq8x2z; (case zq8x2k1 => k_asm); (case zq8x2k2 => k_asm); (case zq8x2k3 => k_upd); (case zq8x2z => (rw [sizeLine_eq]; (try simp only [List.size_toArray, Array.size_push]); omega)); k_whole); intro h' F' N'; (try k_sweep))
  trivial
set_option maxRecDepth 100000
set_option maxHeartbeats 4000000

def b2aStep (s : List Int × Int × Int) (b : Int) : List Int × Int × Int :=
  if s.2.2 = 0 then (s.1 ++ [b64I ((s.2.1 * 256 + b) % 65536 / 4 % 64)], (s.2.1 * 256 + b) % 65536, 2)
  else if s.2.2 = 2 then (s.1 ++ [b64I ((s.2.1 * 256 + b) % 65536 / 16 % 64)], (s.2.1 * 256 + b) % 65536, 4)
  else (s.1 ++ [b64I ((s.2.1 * 256 + b) % 65536 / 64 % 64), b64I ((s.2.1 * 256 + b) % 65536 % 64)], (s.2.1 * 256 + b) % 65536, 0)
def b2aRun (l : List UInt8) : List Int × Int × Int := l.foldl (fun s b => b2aStep s (b.toNat : Int)) ([], 0, 0)
def b2aOut (l : List UInt8) : List Int :=
  (b2aRun l).1 ++ (if (b2aRun l).2.2 = 2 then [b64I ((b2aRun l).2.1 % 4 * 16), 61, 61] else if (b2aRun l).2.2 = 4 then [b64I ((b2aRun l).2.1 % 16 * 4), 61] else [])
theorem b64I_in {n : Int} (h0 : 0 ≤ n) (h1 : n < 64) : 0 ≤ b64I n ∧ b64I n < 128 := by
  unfold b64I; repeat' split
  all_goals omega
theorem b2aRun_snoc (l : List UInt8) (b : UInt8) : b2aRun (l ++ [b]) = b2aStep (b2aRun l) (b.toNat : Int) := by
  unfold b2aRun; rw [List.foldl_append]; rfl
theorem b2aStep_ok {s : List Int × Int × Int} {b : Int} (h1 : ∀ n ∈ s.1, 0 ≤ n ∧ n < 128) :
    (0 ≤ (b2aStep s b).2.1 ∧ (b2aStep s b).2.1 < 65536) ∧ ((b2aStep s b).2.2 = 0 ∨ (b2aStep s b).2.2 = 2 ∨ (b2aStep s b).2.2 = 4) ∧ (b2aStep s b).1.length ≤ s.1.length + 2 ∧ (∀ n ∈ (b2aStep s b).1, 0 ≤ n ∧ n < 128) := by
  have hm : ∀ z : Int, 0 ≤ b64I (z % 64) ∧ b64I (z % 64) < 128 := fun z => b64I_in (Int.emod_nonneg _ (by decide)) (Int.emod_lt_of_pos _ (by decide))
  unfold b2aStep
  split
  · refine ⟨⟨Int.emod_nonneg _ (by decide), Int.emod_lt_of_pos _ (by decide)⟩, .inr (.inl rfl), by simp, ?_⟩
    intro n hn
    rcases List.mem_append.mp hn with hn | hn
    · exact h1 n hn
    · rw [List.mem_singleton.mp hn]; exact hm _
  · split
    · refine ⟨⟨Int.emod_nonneg _ (by decide), Int.emod_lt_of_pos _ (by decide)⟩, .inr (.inr rfl), by simp, ?_⟩
      intro n hn
      rcases List.mem_append.mp hn with hn | hn
      · exact h1 n hn
      · rw [List.mem_singleton.mp hn]; exact hm _
    · refine ⟨⟨Int.emod_nonneg _ (by decide), Int.emod_lt_of_pos _ (by decide)⟩, .inl rfl, by simp, ?_⟩
      intro n hn
      rcases List.mem_append.mp hn with hn | hn
      · exact h1 n hn
      · rcases List.mem_cons.mp hn with rfl | hn
        · exact hm _
        · rw [List.mem_singleton.mp hn]; exact hm _
theorem b2aRun_ok (l : List UInt8) : (0 ≤ (b2aRun l).2.1 ∧ (b2aRun l).2.1 < 65536) ∧ ((b2aRun l).2.2 = 0 ∨ (b2aRun l).2.2 = 2 ∨ (b2aRun l).2.2 = 4) ∧ (b2aRun l).1.length ≤ 2 * l.length ∧ (∀ n ∈ (b2aRun l).1, 0 ≤ n ∧ n < 128) := by
  have key : ∀ r : List UInt8, (0 ≤ (b2aRun r.reverse).2.1 ∧ (b2aRun r.reverse).2.1 < 65536) ∧ ((b2aRun r.reverse).2.2 = 0 ∨ (b2aRun r.reverse).2.2 = 2 ∨ (b2aRun r.reverse).2.2 = 4) ∧ (b2aRun r.reverse).1.length ≤ 2 * r.reverse.length ∧ (∀ n ∈ (b2aRun r.reverse).1, 0 ≤ n ∧ n < 128) := by
    intro r
    induction r with
    | nil => exact ⟨⟨Int.le_refl 0, by decide⟩, .inl rfl, Nat.le_refl _, by intro n hn; cases hn⟩
    | cons b r ih =>
      rw [List.reverse_cons, b2aRun_snoc]
      obtain ⟨_, _, h3, h4⟩ := ih
      obtain ⟨g1, g2, g3, g4⟩ := b2aStep_ok (b := (b.toNat : Int)) h4
      refine ⟨g1, g2, ?_, g4⟩
      simp only [List.length_append, List.length_singleton]
      omega
  have := key l.reverse
  rwa [List.reverse_reverse] at this
theorem b2aOut_in (l : List UInt8) : ∀ n ∈ b2aOut l, 0 ≤ n ∧ n < 128 := by
  obtain ⟨⟨h1, h2⟩, _, _, h4⟩ := b2aRun_ok l
  intro n hn
  rcases List.mem_append.mp hn with hn | hn
  · exact h4 n hn
  · split at hn
    · rcases List.mem_cons.mp hn with rfl | hn
      · exact b64I_in (by omega) (by omega)
      · simp at hn; omega
    · split at hn
      · rcases List.mem_cons.mp hn with rfl | hn
        · exact b64I_in (by omega) (by omega)
        · simp at hn; omega
      · cases hn
theorem b2aOut_length (l : List UInt8) : (b2aOut l).length ≤ 2 * l.length + 3 := by
  obtain ⟨_, _, h3, _⟩ := b2aRun_ok l
  unfold b2aOut
  rw [List.length_append]
  repeat' split
  all_goals (simp only [List.length_cons, List.length_nil]; omega)

theorem ints_snoc {ys : List Value} {o : List Int} {n : Int} {t : Tok} (h : IntsAre ys o) : IntsAre (ys ++ [.int n t]) (o ++ [n]) := by
  induction h with
  | nil => exact .cons _ _ .nil
  | cons a b _ ih => exact .cons _ _ ih
theorem fd2 (W : Int) (k : Nat) : W.fdiv (2 ^ k) = W / 2 ^ k := Int.fdiv_eq_ediv_of_nonneg _ (Int.le_of_lt (Int.pow_pos (by decide)))
theorem b2_st0 {o : List Int} {lc n W : Int} (hw : W = (lc * 256 + n) % 65536) : b2aStep (o, lc, 0) n = (o ++ [b64I (W.fdiv (2 ^ (0 + 8 - 6 : Int).toNat) % 64)], W, 0 + 8 - 6) := by
  subst hw; rw [fd2]; rfl
theorem b2_st2 {o : List Int} {lc n W : Int} (hw : W = (lc * 256 + n) % 65536) : b2aStep (o, lc, 2) n = (o ++ [b64I (W.fdiv (2 ^ (2 + 8 - 6 : Int).toNat) % 64)], W, 2 + 8 - 6) := by
  subst hw; rw [fd2]; rfl
theorem b2_st4 {o : List Int} {lc n W : Int} (hw : W = (lc * 256 + n) % 65536) : b2aStep (o, lc, 4) n = (o ++ [b64I (W.fdiv (2 ^ (4 + 8 - 6 : Int).toNat) % 64)] ++ [b64I (W.fdiv (2 ^ (4 + 8 - 6 - 6 : Int).toNat) % 64)], W, 4 + 8 - 6 - 6) := by
  subst hw
  rw [fd2, fd2]
  have e : (4 + 8 - 6 - 6 : Int).toNat = 0 := rfl
  rw [e, Int.pow_zero, Int.ediv_one]
  simp [b2aStep]

theorem c_b2a (w : World) (b : Array UInt8) (t : Tok) (hlen : b.size ≤ 12) : ConV w 2 32 120 [.bytes b t] [(Str.ofString "newline", .bool false)] (fun _ => True) (fun t => .bytes (byteArr (b2aOut b.toList)) t) := by
  walk_at "my fill"
  intro mean mg mb dp un gd cn cs a ccd cl outer A₀ base h₀ L m s Q E B F X T hk hd hu hp hret
  refine wpAny_with_toks (Nat.le_refl _) ?_
  walk_at "my enter"
  k_steps
  rename Fr _ _ _ _ => F1
  rename News _ _ _ _ => N1
  refine for_bytes_b2a (y1 := Str.ofString "leftchar") (y2 := Str.ofString "leftbits") (fun k c => ∃ o, b2aRun (b.toList.take k) = (o, c.lc, c.lb) ∧ IntsAre c.ys o) ⟨[], 0, 0, _, 0, _⟩ rfl F1 N1 rfl rfl ⟨_, rfl, .nil⟩ ?_ ?_
  · intro k c n t h tk own hn hS hoff F2 N2
    obtain ⟨ys, nn, lc, t1, lb, t2⟩ := c
    obtain ⟨o, hS, hI⟩ := hS
    dsimp only at hS hI
    have hb := n.toNat_lt
    have hok := b2aRun_ok (b.toList.take k)
    have hnn : b.toList[k]? = some n := by rw [Array.getElem?_toList]; exact hn
    have hnx : b2aRun (b.toList.take (k + 1)) = b2aStep (o, lc, lb) (n.toNat : Int) := by
      rw [List.take_add_one, hnn, ← hS]; exact b2aRun_snoc _ _
    rw [hS] at hok
    obtain ⟨h4, h3, h5, _⟩ := hok
    dsimp only at h4 h3 h5
    have hkl : (b.toList.take k).length ≤ 11 := by
      have : k < b.size := by
        rcases Nat.lt_or_ge k b.size with h | h
        · exact h
        · rw [Array.getElem?_eq_none h] at hn; cases hn
      rw [List.length_take]; omega
    have hyl := hI.length
    have hys : ys.length ≤ 22 := by omega
    have hw : Builtin.bitAnd (Builtin.bitOr (lc * 2 ^ Int.toNat 8) (n.toNat : Int)) 65535 = (lc * 256 + (n.toNat : Int)) % 65536 := by
      rw [band_16, bor_shift (Int.toNat 8) h4.1 (by omega) (by simp; omega)]; rfl
    clear F1 N1
    dsimp only at F2 N2
    rcases h3 with rfl | rfl | rfl
    all_goals k_steps
    all_goals rename News _ _ _ _ => N3
    all_goals simp only [List.push_toArray] at N3
    all_goals walk_at "my b2"
    · exact ⟨_, hnx.trans (b2_st0 hw), ints_snoc hI⟩
    · exact ⟨_, hnx.trans (b2_st2 hw), ints_snoc hI⟩
    · exact ⟨_, hnx.trans (b2_st4 hw), ints_snoc (ints_snoc hI)⟩
  · intro c u h tk hS F2 N2
    obtain ⟨ys, nn, lc, t1, lb, t2⟩ := c
    obtain ⟨o, hS, hI⟩ := hS
    dsimp only at hS hI F2 N2
    have hsz : b.toList.take b.size = b.toList := by
      have := List.take_length (l := b.toList); rwa [Array.length_toList] at this
    rw [hsz] at hS
    have hok := b2aRun_ok b.toList
    have hout : b2aOut b.toList = o ++ (if lb = 2 then [b64I (lc % 4 * 16), 61, 61] else if lb = 4 then [b64I (lc % 16 * 4), 61] else []) := by
      unfold b2aOut; rw [hS]
    have hr := b2aOut_in b.toList
    have hr' : ∀ n ∈ b2aOut b.toList, 0 ≤ n ∧ n < 256 := fun n hn => ⟨(hr n hn).1, Int.lt_trans (hr n hn).2 (by decide)⟩
    rw [hS] at hok
    obtain ⟨h4, h3, h5, _⟩ := hok
    dsimp only at h4 h3 h5
    have hyl := hI.length
    have hbl : b.toList.length = b.size := Array.length_toList
    have hys : ys.length ≤ 24 := by omega
    clear F1 N1 hr
    have hb3 : 0 ≤ Builtin.bitAnd lc 3 ∧ Builtin.bitAnd lc 3 < 4 := by rw [band_3]; omega
    have hb15 : 0 ≤ Builtin.bitAnd lc 15 ∧ Builtin.bitAnd lc 15 < 16 := by rw [band_15]; omega
    rcases h3 with rfl | rfl | rfl
    all_goals k_steps
    all_goals rename News _ _ _ _ => N3
    all_goals rename Fr _ _ _ _ => F3
    all_goals (try simp only [List.push_toArray] at N3)
    · refine' bytes_K (ns := b2aOut b.toList) F3 N3 (News.isList N3 (.head _)) ?i hr' ?z (by with_unfolding_all rfl) ?_
      case i => (rw [hout]; simpa using hI)
      case z => (rw [sizeLine_eq]; omega)
      intro h' t' k' F' N' _
      k_steps
      all_goals walk_at "my end"
      all_goals (try intro ht)
      all_goals refine ret_bytes hret rfl (by assumption) (Fr.keep (by k_asm))
    · refine' bytes_K (ns := b2aOut b.toList) F3 N3 (News.isList N3 (.head _)) ?i hr' ?z (by with_unfolding_all rfl) ?_
      case i => (rw [hout, if_pos rfl, show o ++ [b64I (lc % 4 * 16), 61, 61] = o ++ [b64I (lc % 4 * 16)] ++ [61] ++ [61] by simp, ← band_3]; exact ints_snoc (ints_snoc (ints_snoc hI)))
      case z => (rw [sizeLine_eq]; simp only [List.length_append, List.length_singleton]; omega)
      intro h' t' k' F' N' _
      k_steps
      all_goals walk_at "my end"
      all_goals (try intro ht)
      all_goals refine ret_bytes hret rfl (by assumption) (Fr.keep (by k_asm))
    · refine' bytes_K (ns := b2aOut b.toList) F3 N3 (News.isList N3 (.head _)) ?i hr' ?z (by with_unfolding_all rfl) ?_
      case i => (rw [hout, if_neg (by decide), if_pos rfl, show o ++ [b64I (lc % 16 * 4), 61] = o ++ [b64I (lc % 16 * 4)] ++ [61] by simp, ← band_15]; exact ints_snoc (ints_snoc hI))
      case z => (rw [sizeLine_eq]; simp only [List.length_append, List.length_singleton]; omega)
      intro h' t' k' F' N' _
      k_steps
      all_goals walk_at "my end"
      all_goals (try intro ht)
      all_goals refine ret_bytes hret rfl (by assumption) (Fr.keep (by k_asm))
theorem words9 : True := by
  k_with "call ref" => (k_here; (k_dflt (refine' use_V (c_b2a _ _ _ ?zq9x0kh) ?zq9x0kB ?zq9x0kF ?zq9x0kN ?zq9x0kX ?zq9x0kT ?zq9x0kk ?zq9x0kD ?zq9x0kU ?zq9x0kp ?_)); (case zq9x0kh => first | assumption | omega); (case zq9x0kB => k_asm); (case zq9x0kF => k_asm); (case zq9x0kN => k_asm); (case zq9x0kX => k_asm); (case zq9x0kT => k_asm); (case zq9x0kk => first | exact rfl | assumption); (case zq9x0kD => ktr_room); (case zq9x0kU => ktr_units); (case zq9x0kp => trivial); intro t9 h9 tk9 ht9 F9 N9; (try dsimp only); (try k_sweep))
  trivial
set_option maxRecDepth 100000
set_option maxHeartbeats 4000000

def transB (f x b : Array UInt8) : Array UInt8 := b.map fun c => (transTab f.toList x.toList).getD c.toNat c
theorem c_b64encode (w : World) (b c : Array UInt8) (t u : Tok) (hlen : b.size ≤ 12) (hc : c.size = 2) : ConV w 3 48 128 [.bytes b t, .bytes c u] [] (fun _ => True) (fun t => .bytes (transB #[43, 47] c (byteArr (b2aOut b.toList))) t) := by
  have hz : (byteArr (b2aOut b.toList)).size ≤ 16777216 := by
    have h9 := b2aOut_length b.toList
    have hbl : b.toList.length = b.size := Array.length_toList
    rw [byteArr_size]
    omega
  walk_at "my fill"
  intro mean mg mb dp un gd cn cs a ccd cl outer A₀ base h₀ L m s Q E B F X T hk hd hu hp hret
  refine wpAny_with_toks (Nat.le_refl _) ?_
  walk_at "my enter"
  have hc2 : (2 : Nat) = c.size := hc.symm
  k_steps
  all_goals walk_at "my end"
  all_goals (try intro ht)
  all_goals refine ret_bytes hret rfl (by assumption) (Fr.keep (by k_asm))
set_option maxRecDepth 100000
set_option maxHeartbeats 4000000

theorem b64Of_all : ∀ k < 64, B64Of (b64I ((k : Nat) : Int)) k := by unfold B64Of; decide +kernel
theorem b64I_all : ∀ k < 64, b64I ((k : Nat) : Int) ≠ 61 := by decide +kernel
theorem b64Of_I {n : Int} (h0 : 0 ≤ n) (h1 : n < 64) : B64Of (b64I n) n := by
  obtain ⟨k, rfl⟩ := Int.eq_ofNat_of_zero_le h0
  exact b64Of_all k (Int.ofNat_lt.mp h1)
theorem b64I_ne {n : Int} (h0 : 0 ≤ n) (h1 : n < 64) : b64I n ≠ 61 := by
  obtain ⟨k, rfl⟩ := Int.eq_ofNat_of_zero_le h0
  exact b64I_all k (Int.ofNat_lt.mp h1)
theorem words10 : True := by
  k_with "call ref" => (k_here; (k_dflt (refine' use_V (c_b64at _ _ _ _ ?zq10x0kh) ?zq10x0kB ?zq10x0kF ?zq10x0kN ?zq10x0kX ?zq10x0kT ?zq10x0kk ?zq10x0kD ?zq10x0kU ?zq10x0kp ?_)); (case zq10x0kh => assumption); (case zq10x0kB => k_asm); (case zq10x0kF => k_asm); (case zq10x0kN => k_asm); (case zq10x0kX => k_asm); (case zq10x0kT => k_asm); (case zq10x0kk => first | exact rfl | assumption); (case zq10x0kD => ktr_room); (case zq10x0kU => ktr_units); (case zq10x0kp => trivial); intro t9 h9 tk9 ht9 F9 N9; (try dsimp only); (try k_sweep))
  trivial

def a2bStep (s : List Int × Int × Int) (f : Int) : List Int × Int × Int :=
  if s.2.1 = 0 then (s.1, 1, f) else if s.2.1 = 1 then (s.1 ++ [s.2.2 * 4 + f / 16], 2, f % 16) else if s.2.1 = 2 then (s.1 ++ [s.2.2 * 16 + f / 4], 3, f % 4) else (s.1 ++ [s.2.2 * 64 + f], 0, 0)
def a2bRun (l : List Int) : List Int × Int × Int := l.foldl a2bStep ([], 0, 0)
theorem a2bRun_snoc (l : List Int) (f : Int) : a2bRun (l ++ [f]) = a2bStep (a2bRun l) f := by
  unfold a2bRun; rw [List.foldl_append]; rfl
def A2Ok (s : List Int × Int × Int) (k : Nat) : Prop :=
  (∀ n ∈ s.1, 0 ≤ n ∧ n < 256) ∧ s.1.length ≤ k ∧ ((s.2.1 = 0 ∧ s.2.2 = 0) ∨ (s.2.1 = 1 ∧ 0 ≤ s.2.2 ∧ s.2.2 < 64) ∨ (s.2.1 = 2 ∧ 0 ≤ s.2.2 ∧ s.2.2 < 16) ∨ (s.2.1 = 3 ∧ 0 ≤ s.2.2 ∧ s.2.2 < 4)) ∧ s.2.1 = (k : Int) % 4
theorem mem_snoc {P : Int → Prop} {l : List Int} {x : Int} (h : ∀ n ∈ l, P n) (hx : P x) : ∀ n ∈ l ++ [x], P n := by
  intro n hn
  rcases List.mem_append.mp hn with hn | hn
  · exact h n hn
  · rw [List.mem_singleton.mp hn]; exact hx
theorem a2bStep_ok {s : List Int × Int × Int} {k : Nat} {f : Int} (h : A2Ok s k) (h0 : 0 ≤ f) (h1 : f < 64) : A2Ok (a2bStep s f) (k + 1) := by
  obtain ⟨hr, hl, hc, hk⟩ := h
  unfold a2bStep
  rcases hc with ⟨e, e'⟩ | ⟨e, e0, e1⟩ | ⟨e, e0, e1⟩ | ⟨e, e0, e1⟩
  · rw [if_pos e]
    exact ⟨hr, by dsimp only; omega, .inr (.inl ⟨rfl, h0, h1⟩), by dsimp only; omega⟩
  · rw [if_neg (by omega), if_pos e]
    exact ⟨mem_snoc hr (by omega), by simp; omega, .inr (.inr (.inl ⟨rfl, by dsimp only; omega, by dsimp only; omega⟩)), by dsimp only; omega⟩
  · rw [if_neg (by omega), if_neg (by omega), if_pos e]
    exact ⟨mem_snoc hr (by omega), by simp; omega, .inr (.inr (.inr ⟨rfl, by dsimp only; omega, by dsimp only; omega⟩)), by dsimp only; omega⟩
  · rw [if_neg (by omega), if_neg (by omega), if_neg (by omega)]
    exact ⟨mem_snoc hr (by omega), by simp; omega, .inl ⟨rfl, rfl⟩, by dsimp only; omega⟩
theorem a2bRun_ok (l : List Int) (hv : ∀ f ∈ l, 0 ≤ f ∧ f < 64) : A2Ok (a2bRun l) l.length := by
  have key : ∀ r : List Int, (∀ f ∈ r.reverse, 0 ≤ f ∧ f < 64) → A2Ok (a2bRun r.reverse) r.reverse.length := by
    intro r
    induction r with
    | nil => intro _; exact ⟨(by intro n hn; cases hn), Nat.le_refl _, .inl ⟨rfl, rfl⟩, rfl⟩
    | cons b r ih =>
      intro h
      rw [List.reverse_cons] at h ⊢
      rw [a2bRun_snoc, List.length_append, List.length_singleton]
      have hb := h b (by simp)
      exact a2bStep_ok (ih fun f hf => h f (List.mem_append_left _ hf)) hb.1 hb.2
  have := key l.reverse
  rw [List.reverse_reverse] at this
  exact this hv

/-- the signs of a text in base64 -/
def enc (fs : List Int) (p : Nat) : List Int := fs.map b64I ++ List.replicate p 61

theorem a2_1 {o : List Int} {lc f : Int} (h : 0 ≤ lc) (h0 : 0 ≤ f) (h1 : f < 64) : a2bStep (o, 1, lc) f = (o ++ [Builtin.bitOr (lc * 2 ^ Int.toNat 2) (f.fdiv (2 ^ Int.toNat 4))], 2, Builtin.bitAnd f 15) := by
  have e : f.fdiv (2 ^ Int.toNat 4) = f / 16 := by rw [fd2]; rfl
  rw [band_15, e, bor_shift (Int.toNat 2) h (by omega) (by simp; omega)]; rfl
theorem a2_2 {o : List Int} {lc f : Int} (h : 0 ≤ lc) (h0 : 0 ≤ f) (h1 : f < 64) : a2bStep (o, 2, lc) f = (o ++ [Builtin.bitOr (lc * 2 ^ Int.toNat 4) (f.fdiv (2 ^ Int.toNat 2))], 3, Builtin.bitAnd f 3) := by
  have e : f.fdiv (2 ^ Int.toNat 2) = f / 4 := by rw [fd2]; rfl
  rw [band_3, e, bor_shift (Int.toNat 4) h (by omega) (by simp; omega)]; rfl
theorem a2_3 {o : List Int} {lc f : Int} (h : 0 ≤ lc) (h0 : 0 ≤ f) (h1 : f < 64) : a2bStep (o, 3, lc) f = (o ++ [Builtin.bitOr (lc * 2 ^ Int.toNat 6) f], 0, 0) := by
  rw [bor_shift (Int.toNat 6) h h0 (by simp; omega)]; rfl

theorem c_a2b (w : World) (b : Array UInt8) (t : Tok) (fs : List Int) (p : Nat) (hb : KBw.bInts b = enc fs p) (hv : ∀ f ∈ fs, 0 ≤ f ∧ f < 64) (hlen : fs.length ≤ 16) (hp4 : p < 3) (hp : (fs.length + p) % 4 = 0) :
    ConV w 2 32 112 [.bytes b t] [(Str.ofString "strict_mode", .bool true)] (fun _ => True) (fun t => .bytes (byteArr (a2bRun fs).1) t) := by
  walk_at "my fill"
  intro mean mg mb dp un gd cn cs a ccd cl outer A₀ base h₀ L m s Q E B F X T hk hd hu hpre hret
  refine wpAny_with_toks (Nat.le_refl _) ?_
  walk_at "my enter"
  k_steps
  rename Fr _ _ _ _ => F1
  rename News _ _ _ _ => N1
  refine for_bytes_a2b (y1 := Str.ofString "quad_pos") (y2 := Str.ofString "leftchar") (y3 := Str.ofString "pads") (y4 := Str.ofString "i")
    (fun k c => ∃ o, a2bRun (fs.take k) = (o, c.qp, c.lc) ∧ IntsAre c.ys o ∧ c.pd = ((k - fs.length : Nat) : Int)) ⟨[], 0, 0, _, 0, _, 0, _, 0, _⟩ rfl F1 N1 rfl rfl rfl rfl ⟨_, rfl, .nil, by simp⟩ ?_ ?_
  · intro k c n t h tk own hn hS hoff F2 N2
    obtain ⟨ys, nn, qp, t1, lc, t2, pd, t3, ix, t4⟩ := c
    obtain ⟨o, hS, hI, hpd⟩ := hS
    dsimp only [A2.mp] at hS hI hpd F2 N2
    have hni := KBw.ints_get hn
    rw [hb] at hni
    have hok := a2bRun_ok (fs.take k) fun f hf => hv f (List.mem_of_mem_take hf)
    rw [hS] at hok
    obtain ⟨hr, hol, hc, hkq⟩ := hok
    dsimp only at hr hol hc hkq
    have hyl := hI.length
    rw [List.length_take] at hol hkq
    have hys : ys.length ≤ 16 := by omega
    clear F1 N1
    rcases Nat.lt_or_ge k fs.length with hkl | hkl
    · have hf : fs[k]? = some fs[k] := List.getElem?_eq_getElem hkl
      have hfv := hv fs[k] (List.getElem_mem hkl)
      generalize hfk : fs[k] = f at hf hfv
      have hnf : (n.toNat : Int) = b64I f := by
        unfold enc at hni
        rw [List.getElem?_append_left (by simpa using hkl), List.getElem?_map, hf] at hni
        exact (Option.some.inj hni).symm
      have hval : B64Of (n.toNat : Int) f := by rw [hnf]; exact b64Of_I hfv.1 hfv.2
      have hne : (n.toNat : Int) ≠ 61 := by rw [hnf]; exact b64I_ne hfv.1 hfv.2
      have hpd0 : pd = 0 := by omega
      subst hpd0
      have hnx : a2bRun (fs.take (k + 1)) = a2bStep (o, qp, lc) f := by
        rw [List.take_add_one, hf, ← hS]; exact a2bRun_snoc _ _
      have hlc : 0 ≤ lc ∧ lc < 64 := by clear hkq hol hyl hys hni hb hn; omega
      obtain ⟨lc0, lc1⟩ := hlc
      k_steps
      all_goals rename News _ _ _ _ => N3
      all_goals (try simp only [List.push_toArray] at N3)
      · have hq : qp = 0 := by assumption
        subst hq
        walk_at "my a2"
        exact ⟨_, hnx.trans rfl, hI, by simp; omega⟩
      · have hq : qp = 1 := by assumption
        subst hq
        walk_at "my a2"
        exact ⟨_, hnx.trans (a2_1 lc0 hfv.1 hfv.2), ints_snoc hI, by simp; omega⟩
      · have hq : qp = 2 := by assumption
        subst hq
        walk_at "my a2"
        exact ⟨_, hnx.trans (a2_2 lc0 hfv.1 hfv.2), ints_snoc hI, by simp; omega⟩
      · have hq : qp = 3 := by omega
        subst hq
        walk_at "my a2"
        exact ⟨_, hnx.trans (a2_3 lc0 hfv.1 hfv.2), ints_snoc hI, by simp; omega⟩
    · have hkp : k < fs.length + p := by
        rcases Nat.lt_or_ge k (fs.length + p) with h | h
        · exact h
        · rw [List.getElem?_eq_none (by simp [enc]; omega)] at hni; cases hni
      have hnf : (n.toNat : Int) = 61 := by
        unfold enc at hni
        rw [List.getElem?_append_right (by simpa using hkl), List.getElem?_replicate] at hni
        split at hni
        · exact (Option.some.inj hni).symm
        · cases hni
      have hnx : fs.take (k + 1) = fs.take k := by rw [List.take_of_length_le hkl, List.take_of_length_le (by omega)]
      have hq2 : 2 ≤ qp := by omega
      have hq4 : qp + (pd + 1) ≤ 4 := by omega
      k_steps
      all_goals dsimp only
      all_goals walk_at "my a2"
      all_goals exact ⟨_, (by rw [hnx]; exact hS), hI, by dsimp only; omega⟩
  · intro c u h tk hS F2 N2
    obtain ⟨ys, nn, qp, t1, lc, t2, pd, t3, ix, t4⟩ := c
    obtain ⟨o, hS, hI, hpd⟩ := hS
    dsimp only [A2.mp] at hS hI hpd F2 N2
    have hsz : b.size = fs.length + p := by
      have := congrArg List.length hb
      rw [KBw.ints_length] at this
      rw [this]; simp [enc]
    rw [hsz, List.take_of_length_le (by omega)] at hS
    have hok := a2bRun_ok fs hv
    rw [hS] at hok
    obtain ⟨hr, hol, hc, hkq⟩ := hok
    dsimp only at hr hol hc hkq
    have hyl := hI.length
    have hys : ys.length ≤ 16 := by omega
    clear F1 N1
    have hq1 : qp ≠ 1 := by omega
    have hq0 : qp = 0 ∨ ¬ qp + pd < 4 := by omega
    k_steps
    all_goals walk_at "my end"
    all_goals (try intro ht)
    all_goals refine ret_bytes hret (by rw [hS]; rfl) (by assumption) (Fr.keep (by k_asm))
set_option maxRecDepth 100000
set_option maxHeartbeats 4000000
theorem words11 : True := by
  k_with "call ref" => (k_here; (k_dflt (refine' use_V (c_a2b _ _ _ _ _ ?zq11x0kh ?zq11x0kv ?zq11x0kl ?zq11x0kq ?zq11x0kr) ?zq11x0kB ?zq11x0kF ?zq11x0kN ?zq11x0kX ?zq11x0kT ?zq11x0kk ?zq11x0kD ?zq11x0kU ?zq11x0kp ?_)); (case zq11x0kh => assumption); (case zq11x0kv => assumption); (case zq11x0kl => assumption); (case zq11x0kq => assumption); (case zq11x0kr => assumption); (case zq11x0kB => k_asm); (case zq11x0kF => k_asm); (case zq11x0kN => k_asm); (case zq11x0kX => k_asm); (case zq11x0kT => k_asm); (case zq11x0kk => first | exact rfl | assumption); (case zq11x0kD => ktr_room); (case zq11x0kU => ktr_units); (case zq11x0kp => trivial); intro t9 h9 tk9 ht9 F9 N9; (try dsimp only); (try k_sweep))
  trivial

theorem c_b64decode (w : World) (x : Str) (c : Array UInt8) (t u : Tok) (fs : List Int) (p : Nat) (hx : ∀ c ∈ x.cps, c < 128) (hz : x.length ≤ 16777216) (hc : c.size = 2)
    (hb : KBw.bInts (transB c #[43, 47] (x.cps.map (·.toUInt8))) = enc fs p) (hv : ∀ f ∈ fs, 0 ≤ f ∧ f < 64) (hlen : fs.length ≤ 16) (hp4 : p < 3) (hp : (fs.length + p) % 4 = 0) :
    ConV w 3 48 136 [.str x t, .bytes c u, .bool true] [] (fun _ => True) (fun t => .bytes (byteArr (a2bRun fs).1) t) := by
  have hz2 : (Array.map (fun x => x.toUInt8) x.cps).size ≤ 16777216 := by rw [Array.size_map]; exact hz
  walk_at "my fill"
  intro mean mg mb dp un gd cn cs a ccd cl outer A₀ base h₀ L m s Q E B F X T hk hd hu hpre hret
  refine wpAny_with_toks (Nat.le_refl _) ?_
  walk_at "my enter"
  have hc2 : (2 : Nat) = c.size := hc.symm
  unfold transB at hb
  k_steps
  all_goals refine ret_bytes hret rfl (by assumption) (Fr.keep (by k_asm))
end SC
section SS
theorem words12 : True := by
  k_with_none
  k_with "my fill" => (dsimp only [ConV, ConG]; k_fill; w_on)
  k_with "my enter" => (refine wpAny_call ?_; w_strict (k_dflt first
    | (refine' enter_plain ?zq12x1k1 ?zq12x1k2 ?zq12x1k3 ?zq12x1k5 ?zq12x1kA ?zq12x1kF ?zq12x1kK ?zq12x1k6 ?zq12x1k7 ?zq12x1k8 ?zq12x1k9 ?zq12x1kB ?_ ?zq12x1c2 ?zq12x1c3 ?zq12x1c4 ?zq12x1c5; (case zq12x1kA => exact rfl); (case zq12x1kF => exact rfl); (case zq12x1kK => assumption); (case zq12x1k1 => k_asm); (case zq12x1k2 => k_asm); (case zq12x1k3 => k_asm); (case zq12x1k5 => k_asm); (case zq12x1k6 => k_is); (case zq12x1k7 => k_is); (case zq12x1k8 => ktr_room); (case zq12x1k9 => first | exact BindsTo.of_eq rfl | exact binds_K (by k_in) rfl (by k_is) rfl rfl rfl | fail "k_enter: no rule for these arguments"); (case zq12x1c5 => decide); (case zq12x1kB => exact locs rfl); (case zq12x1c2 => exact rfl); (case zq12x1c3 => exact rfl); (case zq12x1c4 => exact rfl); k_whole; intro L' h' F' N' B' X' T'; (try dsimp only); (try k_lift B'); (try k_fold))
    | (refine' enter_cells ?zq12x1k1 ?zq12x1k2 ?zq12x1k3 ?zq12x1k5 ?zq12x1kA ?zq12x1kF ?zq12x1kK ?zq12x1k6 ?zq12x1k7 ?zq12x1k8 ?zq12x1k9 ?zq12x1kB ?zq12x1kD ?_ ?zq12x1c2 ?zq12x1c3 ?zq12x1c4; (case zq12x1kA => exact rfl); (case zq12x1kF => exact rfl); (case zq12x1kK => assumption); (case zq12x1k1 => k_asm); (case zq12x1k2 => k_asm); (case zq12x1k3 => k_asm); (case zq12x1k5 => k_asm); (case zq12x1k6 => k_is); (case zq12x1k7 => k_is); (case zq12x1k8 => ktr_room); (case zq12x1k9 => first | exact BindsTo.of_eq rfl | exact binds_K (by k_in) rfl (by k_is) rfl rfl rfl | fail "k_enter: no rule for these arguments"); (case zq12x1kB => exact rfl); (case zq12x1kD => decide +kernel); (case zq12x1c2 => exact rfl); (case zq12x1c3 => exact rfl); (case zq12x1c4 => exact rfl); k_whole; intro L' h' tk' cells' F' N' Y' B' X' T'; k_cells Y'; (try simp only [List.cons_append, List.nil_append] at N'); (try dsimp only); (try k_lift B'); (try k_fold))))
  k_with "my end" => ((try dsimp only); (try k_unfold); (try dsimp only))
  k_with "binaryOp Mult int int" => (k_here; (with_reducible refine mul2pow ?zq12x3kfd ?_); (case zq12x3kfd => omega))
  k_with "binaryOp FloorDiv int int" => (k_here; first
    | ((with_reducible refine fdiv256 ?zq12x4kfd ?_); (case zq12x4kfd => omega))
    | ((with_reducible refine fdiv64 ?zq12x4kfd ?_); (case zq12x4kfd => omega)))
  k_with "call type:type" => (k_here; (with_reducible show wpAny _ _ (call _ [Value.bytes _ _]) _ _ _); refine call_type_of (Tx := "bytes") rfl (by decide +kernel) ?_)
  k_with "getMethod str" => (k_here; with_reducible refine getm_encode ?_)
  k_with "getMethod bytes" => (k_here; with_reducible refine getm_translate ?_)
  k_with "call builtin:str.encode" => (k_here; k_dflt (refine call_encode (by assumption) (by first | assumption | omega) ?_); intro _ _)
  k_with "call builtin:bytes.translate" => (k_here; k_dflt (refine call_translate ?zq12x9kt ?zq12x9kz ?_); (case zq12x9kt => exact transTab_size _ _); (case zq12x9kz => first | assumption | omega); intro _ _)
  k_with "getMethod type:bytes" => (k_here; refine' method_type ?zq12x10F ?zq12x10X ?zq12x10m (by decide +kernel) ?zq12x10e ?zq12x10h ?_; (case zq12x10F => k_asm); (case zq12x10X => k_asm); (case zq12x10m => (show typeOf (.type "bytes") = _; first | rfl | kernel_rfl)); (case zq12x10e => k_dflt k_is); (case zq12x10h => k_handed))
  k_with "call builtin:bytes.maketrans" => (k_here; k_dflt (refine call_maketransA ?zq12x11ke ?_); (case zq12x11ke => first | assumption | rfl | omega | simp_all); intro _ _)
  k_with "call type:bytes" => (k_here; (with_reducible show wpAny _ _ (call (Value.type _) [Value.ref _]) _ _ _); k_dflt (refine' bytes_K ?zq12x12F ?zq12x12N ?zq12x12l ?zq12x12i ?zq12x12r ?zq12x12z ?zq12x12h ?_; (case zq12x12F => k_asm); (case zq12x12N => k_asm); (case zq12x12l => exact News.isList (by k_asm) (by k_mem)); (case zq12x12i => assumption); (case zq12x12r => assumption); (case zq12x12z => ((have hiz := IntsAre.length (by assumption)); rw [sizeLine_eq]; omega)); (case zq12x12h => with_unfolding_all rfl); k_whole); intro h' t' k' F' N' hB'; clear hB'; (try k_sweep))
  k_with "storeName" => (k_here; first
    | ((with_reducible show wpAny _ _ (storeName _ _ (Value.int _ (Shared.toks _))) _ _ _); refine st_int ?_; intro tkq)
    | ((with_reducible show wpAny _ _ (storeName _ _ (Value.str _ (Shared.toks _))) _ _ _); refine st_str ?_; intro tkq)
    | ((with_reducible show wpAny _ _ (storeName _ _ (Value.bytes _ (Shared.toks _))) _ _ _); refine st_bytes ?_; intro tkq))
  k_with "eval ListComp" => (k_here; (with_reducible show wpAny _ _ (eval (Expr.ListComp _ [⟨_, Expr.Call _ (_ :: _ :: _ :: []) _ _, _, _⟩] _ _) _) _ _ _); k_dflt (refine listcomp_down (_F₀ := by k_asm) (by with_unfolding_all rfl) (by decide) (by rfl) (by decide) (by rfl) ?_))
  trivial
theorem words13 : True := by
  k_with "CompSrc" => (k_here; (k_dflt (first
    | refine' LCg.CompSrc.base (by rfl) (by k_asm) (by k_asm) (by assumption) ?zq13x0z ?_
    | refine' LCg.CompSrc.ledger (by rfl) (by k_asm) (by k_asm) (by k_mem) ?zq13x0z ?_)); (case zq13x0z => (rw [sizeLine_eq]; (try simp only [List.size_toArray]); omega)); intro g')
  k_with "subscriptTail" => (k_here; (with_reducible show wpAny _ _ (subscriptTail _ _ (Value.str _ _) (Value.int _ _)) _ _ _); refine KXi.item (by assumption) (by omega) (by omega) (by decide) ?_; intro kxiE)
  k_with "binaryOp Mult ref int" => (k_here; (k_dflt (refine' KMa.mul ?zq13x2F ?zq13x2N ?zq13x2l ?zq13x2lo ?zq13x2hi ?zq13x2z ?zq13x2e ?_; (case zq13x2F => k_asm); (case zq13x2N => k_asm); (case zq13x2l => exact News.isList (by k_asm) (by k_mem)); (case zq13x2lo => omega); (case zq13x2hi => omega); (case zq13x2z => (simp only [List.length_cons, List.length_nil]; omega)); (case zq13x2e => exact rfl); k_whole)); intro D' h' F' N' l1; (try k_lt l1); (try k_sweep))
  trivial
set_option maxRecDepth 100000
set_option maxHeartbeats 4000000

def plainT : Str := Str.ofString "ABCDEFGHIJKLMNOPQRSTUVWXYZabcdefghijklmnopqrstuvwxyz0123456789"
/-- the sign of a figure -/
def signT (p : Str) (f : Int) : Str := if f < 62 then Txt.item plainT f else Txt.item p (f - 62)
def signsT (p : Str) (fs : List Int) : List Str := fs.map (signT p) ++ List.replicate ((-(fs.length : Int)) % 4).toNat (Str.ofString "=")
theorem strs_rep {y : Str} {t : Tok} : ∀ k : Nat, StrsAre (List.replicate k [Value.str y t]).flatten (List.replicate k y)
  | 0 => .nil
  | k + 1 => by rw [List.replicate_succ, List.replicate_succ, List.flatten_cons]; exact .cons y t (strs_rep k)

theorem c_signs (w : World) (l : Addr) (vs : List Value) (ns : List Int) (hi : IntsAre vs ns) (hlen : ns.length ≤ 16) (hv : ∀ n ∈ ns, 0 ≤ n ∧ n < 64) (p : Str) (hp : p.length = 2) (t : Tok) :
    ConG w 1 16 158 [.ref l, .str p t] [] (fun s => s.heap.IsList l vs.toArray) (OutStrs (signsT p ns)) := by
  have hpl : plainT.length = 62 := by decide
  have hpl' : (Str.ofString "ABCDEFGHIJKLMNOPQRSTUVWXYZabcdefghijklmnopqrstuvwxyz0123456789").length = 62 := hpl
  have hvl : vs.length = ns.length := hi.length
  walk_at "my fill"
  intro mean mg mb dp un gd cn cs a ccd cl outer A₀ base h₀ L m s Q E B F X T hk hd hu hpre hret
  refine wpAny_with_toks (Nat.le_refl _) ?_
  walk_at "my enter"
  k_steps
  refine comp_rest (fun i v => ∃ f t, ns[i]? = some f ∧ v = .str (signT p f) t) ?_ ?_
  · intro i v I oI C oC D m₂ ys h tk E' hii hv' hC hx F3 N3 off ne
    obtain ⟨f, t, rfl, hf⟩ := IntsAre.at hi i v (by simpa using hv')
    have hfv := hv f (List.mem_of_getElem? hf)
    simp only [LCg.Off3, and_true] at off
    k_steps
    · exact ⟨rfl, f, _, hf, congrArg (Value.str · _) (if_pos (by assumption)).symm⟩
    · exact ⟨rfl, f, _, hf, congrArg (Value.str · _) (if_neg (by assumption)).symm⟩
  · intro ys hl hy D h tk F3 N3 o3
    have hs : StrsAre ys (ns.map (signT p)) := by
      have e : ns.map (signT p) = (List.range ns.length).map fun i => signT p (ns.getD i 0) := by
        apply List.ext_getElem?
        intro i
        simp only [List.getElem?_map]
        rcases Nat.lt_or_ge i ns.length with h | h
        · simp [h]
        · simp [h]
      rw [e]
      refine strs_of (by rw [hl]; simpa using hvl) fun i y hiy => ?_
      obtain ⟨f, t, hf, rfl⟩ := hy i y hiy
      exact ⟨t, by simp [hf]⟩
    have hyl : ys.length = ns.length := by rw [hs.length]; simp
    have hfm : (-(ns.length : Int)).fmod 4 = (-(ns.length : Int)) % 4 := Int.fmod_eq_emod_of_nonneg _ (by decide)
    have hm0 : 0 ≤ (-(ns.length : Int)) % 4 := Int.emod_nonneg _ (by decide)
    have hm1 : (-(ns.length : Int)) % 4 < 4 := Int.emod_lt_of_pos _ (by decide)
    k_steps
    rename News _ _ _ _ => N5
    rename Fr _ _ _ _ => F5
    rw [hfm] at N5
    refine' add_lists (hsz := ?hsz) F5 N5 (News.isList N5 (.tail _ (.tail _ (.head _)))) (News.isList N5 (.head _)) ?_
    case hsz => (rw [sizeLine_eq, hyl]; simp; omega)
    intro h3 F6 N6
    k_steps
    all_goals walk_at "my end"
    all_goals (try intro ht)
    have z := N6 _ (.head _)
    exact hret _ _ _ (by assumption) (Fr.keep (by k_asm)) ⟨_, _, _, rfl, z.1, z.2.2, hs.append' (strs_rep _)⟩
end SS
section SD
theorem words14 : True := by
  k_with_none
  k_with "my fill" => (dsimp only [ConV, ConG]; k_fill; w_on)
  k_with "my enter" => (refine wpAny_call ?_; w_strict (k_dflt first
    | (refine' enter_plain ?zq14x1k1 ?zq14x1k2 ?zq14x1k3 ?zq14x1k5 ?zq14x1kA ?zq14x1kF ?zq14x1kK ?zq14x1k6 ?zq14x1k7 ?zq14x1k8 ?zq14x1k9 ?zq14x1kB ?_ ?zq14x1c2 ?zq14x1c3 ?zq14x1c4 ?zq14x1c5; (case zq14x1kA => exact rfl); (case zq14x1kF => exact rfl); (case zq14x1kK => assumption); (case zq14x1k1 => k_asm); (case zq14x1k2 => k_asm); (case zq14x1k3 => k_asm); (case zq14x1k5 => k_asm); (case zq14x1k6 => k_is); (case zq14x1k7 => k_is); (case zq14x1k8 => ktr_room); (case zq14x1k9 => first | exact BindsTo.of_eq rfl | exact binds_K (by k_in) rfl (by k_is) rfl rfl rfl | fail "k_enter: no rule for these arguments"); (case zq14x1c5 => decide); (case zq14x1kB => exact locs rfl); (case zq14x1c2 => exact rfl); (case zq14x1c3 => exact rfl); (case zq14x1c4 => exact rfl); k_whole; intro L' h' F' N' B' X' T'; (try dsimp only); (try k_lift B'); (try k_fold))
    | (refine' enter_cells ?zq14x1k1 ?zq14x1k2 ?zq14x1k3 ?zq14x1k5 ?zq14x1kA ?zq14x1kF ?zq14x1kK ?zq14x1k6 ?zq14x1k7 ?zq14x1k8 ?zq14x1k9 ?zq14x1kB ?zq14x1kD ?_ ?zq14x1c2 ?zq14x1c3 ?zq14x1c4; (case zq14x1kA => exact rfl); (case zq14x1kF => exact rfl); (case zq14x1kK => assumption); (case zq14x1k1 => k_asm); (case zq14x1k2 => k_asm); (case zq14x1k3 => k_asm); (case zq14x1k5 => k_asm); (case zq14x1k6 => k_is); (case zq14x1k7 => k_is); (case zq14x1k8 => ktr_room); (case zq14x1k9 => first | exact BindsTo.of_eq rfl | exact binds_K (by k_in) rfl (by k_is) rfl rfl rfl | fail "k_enter: no rule for these arguments"); (case zq14x1kB => exact rfl); (case zq14x1kD => decide +kernel); (case zq14x1c2 => exact rfl); (case zq14x1c3 => exact rfl); (case zq14x1c4 => exact rfl); k_whole; intro L' h' tk' cells' F' N' Y' B' X' T'; k_cells Y'; (try simp only [List.cons_append, List.nil_append] at N'); (try dsimp only); (try k_lift B'); (try k_fold))))
  k_with "my end" => ((try dsimp only); (try k_unfold); (try dsimp only))
  k_with "binaryOp Mult int int" => (k_here; (with_reducible refine mul2pow ?zq14x3kfd ?_); (case zq14x3kfd => omega))
  k_with "binaryOp FloorDiv int int" => (k_here; first
    | ((with_reducible refine fdiv256 ?zq14x4kfd ?_); (case zq14x4kfd => omega))
    | ((with_reducible refine fdiv64 ?zq14x4kfd ?_); (case zq14x4kfd => omega)))
  k_with "call type:type" => (k_here; (with_reducible show wpAny _ _ (call _ [Value.bytes _ _]) _ _ _); refine call_type_of (Tx := "bytes") rfl (by decide +kernel) ?_)
  k_with "getMethod str" => (k_here; with_reducible refine getm_encode ?_)
  k_with "getMethod bytes" => (k_here; with_reducible refine getm_translate ?_)
  k_with "call builtin:str.encode" => (k_here; k_dflt (refine call_encode (by assumption) (by first | assumption | omega) ?_); intro _ _)
  k_with "call builtin:bytes.translate" => (k_here; k_dflt (refine call_translate ?zq14x9kt ?zq14x9kz ?_); (case zq14x9kt => exact transTab_size _ _); (case zq14x9kz => first | assumption | omega); intro _ _)
  k_with "getMethod type:bytes" => (k_here; refine' method_type ?zq14x10F ?zq14x10X ?zq14x10m (by decide +kernel) ?zq14x10e ?zq14x10h ?_; (case zq14x10F => k_asm); (case zq14x10X => k_asm); (case zq14x10m => (show typeOf (.type "bytes") = _; first | rfl | kernel_rfl)); (case zq14x10e => k_dflt k_is); (case zq14x10h => k_handed))
  k_with "call builtin:bytes.maketrans" => (k_here; k_dflt (refine call_maketransA ?zq14x11ke ?_); (case zq14x11ke => first | assumption | rfl | omega | simp_all); intro _ _)
  k_with "call type:bytes" => (k_here; (with_reducible show wpAny _ _ (call (Value.type _) [Value.ref _]) _ _ _); k_dflt (refine' bytes_K ?zq14x12F ?zq14x12N ?zq14x12l ?zq14x12i ?zq14x12r ?zq14x12z ?zq14x12h ?_; (case zq14x12F => k_asm); (case zq14x12N => k_asm); (case zq14x12l => exact News.isList (by k_asm) (by k_mem)); (case zq14x12i => assumption); (case zq14x12r => assumption); (case zq14x12z => ((have hiz := IntsAre.length (by assumption)); rw [sizeLine_eq]; omega)); (case zq14x12h => with_unfolding_all rfl); k_whole); intro h' t' k' F' N' hB'; clear hB'; (try k_sweep))
  k_with "storeName" => (k_here; first
    | ((with_reducible show wpAny _ _ (storeName _ _ (Value.int _ (Shared.toks _))) _ _ _); refine st_int ?_; intro tkq)
    | ((with_reducible show wpAny _ _ (storeName _ _ (Value.str _ (Shared.toks _))) _ _ _); refine st_str ?_; intro tkq)
    | ((with_reducible show wpAny _ _ (storeName _ _ (Value.bytes _ (Shared.toks _))) _ _ _); refine st_bytes ?_; intro tkq))
  k_with "eval ListComp" => (k_here; (with_reducible show wpAny _ _ (eval (Expr.ListComp _ [⟨_, Expr.Call _ (_ :: _ :: _ :: []) _ _, _, _⟩] _ _) _) _ _ _); k_dflt (refine listcomp_down (_F₀ := by k_asm) (by with_unfolding_all rfl) (by decide) (by rfl) (by decide) (by rfl) ?_))
  trivial
/-- an entry of a dict of texts, with the tokens -/
abbrev Ent := (Str × Tok) × (Str × Tok)
def dEs (w : World) (es : List Ent) : Array DictEntry := (es.map fun e => (⟨hashStr w e.1.1, .str e.1.1 e.1.2, .str e.2.1 e.2.2⟩ : DictEntry)).toArray
def dObj (w : World) (es : List Ent) (n : Nat) : Obj := { cls := .type "dict", data := .dict (dEs w es) n }
theorem dEs_size (w : World) (es : List Ent) : (dEs w es).size = es.length := by simp [dEs]
theorem dEs_keys (w : World) (es : List Ent) {prog : Program} : KeysOf (strKind prog w) (dEs w es) := by
  intro e he
  simp only [dEs, List.mem_toArray, List.mem_map] at he
  obtain ⟨a, _, rfl⟩ := he
  exact ⟨a.1.1, by simp [PySem.strKind, Value.isStrOf], rfl⟩
theorem dEs_get (w : World) (es : List Ent) (i : Nat) (e : Ent) (h : es[i]? = some e) : (dEs w es)[i]? = some ⟨hashStr w e.1.1, .str e.1.1 e.1.2, .str e.2.1 e.2.2⟩ := by
  simp [dEs, h]
theorem dEs_find (w : World) (es : List Ent) {prog : Program} (x : Str) (hx : x ∉ es.map (·.1.1)) : ((dEs w es).findIdx? fun e => (strKind prog w).is x e.key) = none := by
  rw [Array.findIdx?_eq_none_iff]
  intro e he
  simp only [dEs, List.mem_toArray, List.mem_map] at he
  obtain ⟨a, ha, rfl⟩ := he
  have : a.1.1 ≠ x := fun q => hx (List.mem_map.mpr ⟨a, ha, q⟩)
  simp [PySem.strKind, Value.isStrOf, this]
theorem dEs_push (w : World) (es : List Ent) (x : Str) (t : Tok) (y : Str) (u : Tok) : (dEs w es).push ⟨hashStr w x, .str x t, .str y u⟩ = dEs w (es ++ [((x, t), (y, u))]) := by
  simp [dEs]
section
variable {prog : Program} {w : World} {A : Around} {E : Value → Shared → Prop} {s : Shared} {d : Addr} {es : List Ent} {n : Nat}

theorem setHashed_new {x y : Str} {t u : Tok} {Q : Unit → Shared → Prop} (hm : s.heap.get? d = some (dObj w es n)) (hx : x ∉ es.map (·.1.1)) (hl : es.length ≤ 64)
    (hQ : ∀ h', h'.get? d = some (dObj w (es ++ [((x, t), (y, u))]) (n + 1)) → Heap.SameBut d s.heap h' → Q () { s with heap := h' }) :
    wpAny (model prog w) A (dictSetHashed d (.str x t) (hashStr w x) (.str y u)) Q E s := by
  have hes : (dEs w es).size ≤ sizeLine := by rw [dEs_size, sizeLine_eq]; omega
  unfold dictSetHashed
  refine wpAny_holding ?_
  refine wpAny_bind (wpAny_dictFind_of (knd := strKind prog w) (k := x) (by simp [PySem.strKind, Value.isStrOf]) hm rfl (dEs_keys w es) ?_)
  rw [dEs_find w es x hx]
  refine wpAny_bind (wpAny_rule (wpAny_updateDictKeys (hz := hes) hm rfl (hQ _ ?_ (Heap.SameBut.update ..))))
  rw [Heap.get?_update_self _ hm rfl]
  simp [dObj, Obj.mapDictKeys, dEs_push]

theorem set_new {x y : Str} {t u : Tok} {Q : Unit → Shared → Prop} (hm : s.heap.get? d = some (dObj w es n)) (hx : x ∉ es.map (·.1.1)) (hl : es.length ≤ 64)
    (hQ : ∀ h', h'.get? d = some (dObj w (es ++ [((x, t), (y, u))]) (n + 1)) → Heap.SameBut d s.heap h' → Q () { s with heap := h', toks := s.toks + 1 }) :
    wpAny (model prog w) A (dictSet d (.str x t) (.str y u)) Q E s := by
  unfold dictSet
  refine wpAny_holding ?_
  refine wpAny_bind (wpAny_pyHash_str ?_)
  exact setHashed_new (s := { s with toks := s.toks + 1 }) hm hx hl hQ

/-- all the entries of a display stored -/
theorem storeAll_new : ∀ (vs acc : List Ent) (n : Nat) (s : Shared) (Q : PUnit → Shared → Prop), s.heap.get? d = some (dObj w acc n) → ((acc ++ vs).map (·.1.1)).Nodup → (acc ++ vs).length ≤ 64 →
    (∀ h' n', h'.get? d = some (dObj w (acc ++ vs) n') → Heap.SameBut d s.heap h' → ∀ k, s.toks ≤ k → Q PUnit.unit { s with heap := h', toks := k }) →
    wpAny (model prog w) A (forIn (vs.map fun e => ((Value.str e.1.1 e.1.2, Value.str e.2.1 e.2.2) : Value × Value)) PUnit.unit fun (x : Value × Value) (_ : PUnit) => (do dictSet d x.1 x.2; pure (ForInStep.yield PUnit.unit) : Sem (ForInStep PUnit))) Q E s
  | [], acc, n, s, Q, hm, hn, hl, hQ => by
    rw [List.map_nil, List.forIn_nil]
    exact wpAny_pure (by simpa using hQ s.heap n (by simpa using hm) (Heap.SameBut.refl _ _) s.toks (Nat.le_refl _))
  | ((x, t), (y, u)) :: vs, acc, n, s, Q, hm, hn, hl, hQ => by
    rw [List.map_cons, List.forIn_cons]
    have hx : x ∉ acc.map (·.1.1) := by
      intro hx
      rw [List.map_append, List.map_cons, List.nodup_append] at hn
      exact hn.2.2 x hx x List.mem_cons_self rfl
    refine wpAny_bind (wpAny_bind (set_new hm hx (by simp at hl; omega) fun h₁ hm₁ hs₁ => wpAny_pure ?_))
    refine storeAll_new vs (acc ++ [((x, t), (y, u))]) (n + 1) _ Q hm₁ (by simpa using hn) (by simpa using hl) fun h' n' hm' hs' k hk => ?_
    exact hQ h' n' (by simpa using hm') (hs₁.trans hs') k (Nat.le_trans (Nat.le_succ _) hk)

/-- a display of texts -/
theorem subDict_new {pairs : List (Sem Value × Sem Value)} {Q : Addr → Shared → Prop} (hlen : pairs.length ≤ 15)
    (h : wpAny (model prog w) A (evalPairs pairs) (fun vs s₁ => ∃ es : List Ent, vs = es.map (fun e => (Value.str e.1.1 e.1.2, Value.str e.2.1 e.2.2)) ∧ (es.map (·.1.1)).Nodup ∧
      s₁.heap.get? s.heap.objs.size = some { cls := .type "dict", data := .dict #[] } ∧
      ∀ h' n', h'.get? s.heap.objs.size = some (dObj w es n') → Heap.SameBut s.heap.objs.size s₁.heap h' → ∀ k, s₁.toks ≤ k → Q s.heap.objs.size { s₁ with heap := h', toks := k }) E
      { s with heap := s.heap.push { cls := .type "dict", data := .dict #[] } }) :
    wpAny (model prog w) A (subDict pairs) Q E s := by
  unfold subDict
  refine wpAny_bind (wpAny_alloc ?_)
  refine wpAny_bind (wpAny_holding ?_)
  rw [if_pos hlen]
  refine wpAny_bind (wpAny_mono (wpAny_evalPairs_len h) (fun vs s₁ h₁ => ?_) fun _ _ e => e)
  obtain ⟨hvl, es, rfl, hn, hm, hQ⟩ := h₁
  refine wpAny_holding ?_
  refine wpAny_bind (storeAll_new es [] 0 s₁ _ hm (by simpa using hn) (by simp at hvl; simp; omega) fun h' n' hm' hs' k hk => wpAny_pure (wpAny_pure (hQ h' n' hm' hs' k hk)))
end
section
variable {prog : Program} {w : World} {A : Around} {E : Value → Shared → Prop} {s : Shared} {d a : Addr} {es acc : List Ent} {n m : Nat}

theorem put_new {x y : Str} {t u : Tok} {Q : Unit → Shared → Prop} (hm : s.heap.get? d = some (dObj w acc n)) (hx : x ∉ acc.map (·.1.1)) (hl : acc.length ≤ 64)
    (hQ : ∀ h', h'.get? d = some (dObj w (acc ++ [((x, t), (y, u))]) (n + 1)) → Heap.SameBut d s.heap h' → Q () { s with heap := h' }) :
    wpAny (model prog w) A (dictPut d (hashStr w x) (.str x t) (.str y u)) Q E s := by
  have hes : (dEs w acc).size ≤ sizeLine := by rw [dEs_size, sizeLine_eq]; omega
  unfold dictPut
  refine wpAny_bind (wpAny_dictFind_of (knd := PySem.strKind prog w) (k := x) (by simp [PySem.strKind, Value.isStrOf]) hm rfl (dEs_keys w acc) ?_)
  rw [dEs_find w acc x hx]
  refine wpAny_updateDictKeys (hz := hes) hm rfl (hQ _ ?_ (Heap.SameBut.update ..))
  rw [Heap.get?_update_self _ hm rfl]
  simp [dObj, Obj.mapDictKeys, dEs_push]

theorem dObj_type {w' : World} (hm : s.heap.get? d = some (dObj w' acc n)) : s.TypeIs (.ref d) "dict" := ⟨_, hm, rfl⟩

/-- `{**a}`: the entries of a put into d -/
theorem merge_new {Q : Unit → Shared → Prop} (hda : d ≠ a) (haS : (a == sysModules) = false) (hd : s.heap.get? d = some (dObj w acc n)) (ha : s.heap.get? a = some (dObj w es m))
    (hn : ((acc ++ es).map (·.1.1)).Nodup) (hl : (acc ++ es).length ≤ 64)
    (hQ : ∀ h' n', h'.get? d = some (dObj w (acc ++ es) n') → Heap.SameBut d s.heap h' → Q () { s with heap := h' }) :
    wpAny (model prog w) A (mergeMapping d (.ref a) false) Q E s := by
  have loop : wpAny (model prog w) A (do
      let size := (← dictEntries a).size
      let epoch ← dictEpoch a
      for i in List.range size do
        let some e := (← dictEntries a)[i]? | unsupported "dict.changed-during-merge"
        holding [e.key, e.val] do
          if false then
            if (← dictFind d e.key e.hash).isSome then rule "dict.merge.duplicate-key"; raiseNew (← newExc (.type "KeyError") [e.key])
          dictPut d e.hash e.key e.val
        if (← dictEpoch a) != epoch then unsupported "dict.changed-during-merge") Q E s := by
    refine wpAny_bind (wpAny_dictEntries ha rfl ?_)
    refine wpAny_bind (wpAny_dictEpoch ha rfl ?_)
    refine wpAny_bind ?_
    rw [dEs_size]
    refine wpAny_forIn_list _ (fun rest b s' => ∃ i h' n', rest = List.range' i (es.length - i) ∧ i ≤ es.length ∧ s' = { s with heap := h' } ∧ h'.get? d = some (dObj w (acc ++ es.take i) n') ∧ Heap.SameBut d s.heap h') _ ?_ ?_ _ _
      ⟨0, s.heap, n, by simp [List.range_eq_range'], Nat.zero_le _, rfl, by simpa using hd, Heap.SameBut.refl _ _⟩
    · rintro x rest b s' ⟨i, h₁, n₁, hr, hi, rfl, hd₁, hs₁⟩
      have hlt : i < es.length := by
        rcases Nat.lt_or_ge i es.length with h | h
        · exact h
        · rw [Nat.sub_eq_zero_of_le h] at hr; cases hr
      have e1 : es.length - i = (es.length - (i + 1)) + 1 := by omega
      rw [e1, List.range'_succ] at hr
      injection hr with hx hr
      subst hx
      have ha₁ : h₁.get? a = some (dObj w es m) := (hs₁.2 a (Ne.symm hda)).trans ha
      obtain ⟨⟨⟨k, t⟩, ⟨y, u⟩⟩, hex⟩ : ∃ e, es[x]? = some e := ⟨es[x], List.getElem?_eq_getElem hlt⟩
      refine wpAny_bind (wpAny_dictEntries ha₁ rfl ?_)
      rw [dEs_get w es x _ hex]
      refine wpAny_bind (wpAny_holding ?_)
      have hk : k ∉ (acc ++ es.take x).map (·.1.1) := by
        intro hk
        have e2 : es = es.take x ++ ((k, t), (y, u)) :: es.drop (x + 1) := by
          rw [List.getElem?_eq_some_iff] at hex
          obtain ⟨hlt', he⟩ := hex
          rw [← he, ← List.drop_eq_getElem_cons hlt', List.take_append_drop]
        rw [e2, ← List.append_assoc, List.map_append, List.map_cons, List.nodup_append] at hn
        exact hn.2.2 k hk k List.mem_cons_self rfl
      refine wpAny_mono (Q := fun _ s' => ∃ h' n', s' = { s with heap := h' } ∧ h'.get? d = some (dObj w (acc ++ es.take (x + 1)) n') ∧ Heap.SameBut d s.heap h') (E := E) ?_ ?_ fun _ _ e => e
      · show wpAny _ _ (dictPut d (hashStr w k) (.str k t) (.str y u)) _ _ _
        refine put_new hd₁ hk (by simp at hl ⊢; omega) fun h₂ hd₂ hs₂ => ⟨h₂, n₁ + 1, rfl, ?_, hs₁.trans hs₂⟩
        rw [hd₂, List.take_add_one, hex]
        simp
      · rintro _ s₂ ⟨h₂, n₂, rfl, hd₂, hs₂⟩
        have ha₂ : h₂.get? a = some (dObj w es m) := (hs₂.2 a (Ne.symm hda)).trans ha
        refine wpAny_bind (wpAny_dictEpoch ha₂ rfl ?_)
        rw [if_neg (by simp)]
        exact wpAny_pure ⟨x + 1, h₂, n₂, hr, hlt, rfl, hd₂, hs₂⟩
    · rintro b s' ⟨i, h₁, n₁, hr, hi, rfl, hd₁, hs₁⟩
      have : i = es.length := by
        rcases Nat.lt_or_ge i es.length with h | h
        · have e1 : es.length - i = (es.length - (i + 1)) + 1 := by omega
          rw [e1, List.range'_succ] at hr; cases hr
        · omega
      subst this
      exact wpAny_pure (hQ h₁ n₁ (by simpa using hd₁) hs₁)
  unfold mergeMapping
  refine wpAny_bind (wpAny_isInstance (dObj_type ha) isSubtype_dict_dict ?_)
  simp only [if_true]
  refine wpAny_bind (wpAny_specialOf (dObj_type ha) F.slot_dict_iter.lookup ?_)
  simp only [beq_self_eq_true]
  refine wpAny_bind (wpAny_pure ?_)
  dsimp only
  rw [if_neg (by rw [haS]; exact Bool.false_ne_true)]
  refine wpAny_bind (wpAny_dictEntries hd rfl ?_)
  by_cases hz : (dEs w acc).isEmpty = true
  · rw [if_pos hz]
    refine wpAny_bind (wpAny_dictEntries ha rfl ?_)
    refine wpAny_bind ?_
    unfold dEs
    rw [← Array.forIn_toList]
    refine wpAny_forIn_list _ (fun rest b s' => s' = s ∧ ∃ l : List Ent, rest = l.map fun e => (⟨hashStr w e.1.1, .str e.1.1 e.1.2, .str e.2.1 e.2.2⟩ : DictEntry)) _ ?_ ?_ _ _ ⟨rfl, es, by simp⟩
    · rintro x rest b s' ⟨rfl, l, hl'⟩
      cases l with
      | nil => cases hl'
      | cons e l =>
        rw [List.map_cons] at hl'
        injection hl' with h1 h2
        subst h1
        exact wpAny_pure ⟨rfl, l, h2⟩
    · rintro b s' ⟨rfl, l, hl'⟩
      exact loop
  · rw [if_neg hz]
    exact loop
end
/-- a literal display of texts: the entries with their tokens -/
def litE : Nat → List (Str × Str) → List Ent
  | _, [] => []
  | k, c :: r => ((c.1, k), (c.2, k + 1)) :: litE (k + 2) r
theorem litE_keys : ∀ (k : Nat) (cs : List (Str × Str)), (litE k cs).map (·.1.1) = cs.map (·.1)
  | _, [] => rfl
  | k, c :: r => by rw [litE, List.map_cons, List.map_cons, litE_keys]
theorem litE_length : ∀ (k : Nat) (cs : List (Str × Str)), (litE k cs).length = cs.length
  | _, [] => rfl
  | k, c :: r => by rw [litE, List.length_cons, List.length_cons, litE_length]
def litP (env : Env) (pos : Pos) (cs : List (Str × Str)) : List (Sem Value × Sem Value) :=
  cs.map fun c => (constValue env (.str c.1), do let x ← constValue env (.str c.2); standAt pos; pure x)
section
variable {prog : Program} {w : World} {A : Around} {E : Value → Shared → Prop} {s : Shared} {d a : Addr} {es acc : List Ent} {n m : Nat} {env : Env} {pos : Pos}

theorem const_str {x : Str} {Q : Value → Shared → Prop} (h : Q (.str x s.toks) { s with toks := s.toks + 1 }) : wpAny (model prog w) A (constValue env (.str x)) Q E s := fun _ _ _ => h

theorem pairs_lit : ∀ (cs : List (Str × Str)) (s : Shared) (Q : List (Value × Value) → Shared → Prop),
    Q ((litE s.toks cs).map fun e => (Value.str e.1.1 e.1.2, Value.str e.2.1 e.2.2)) { s with toks := s.toks + 2 * cs.length } → wpAny (model prog w) A (evalPairs (litP env pos cs)) Q E s
  | [], s, Q, h => evalPairs_nil h
  | c :: r, s, Q, h => by
    refine evalPairs_cons (const_str (wpAny_bind (const_str (wpAny_bind (wpAny_standAt (wpAny_pure (pairs_lit r _ _ ?_)))))))
    have e : s.toks + 2 * (c :: r).length = s.toks + 1 + 1 + 2 * r.length := by rw [List.length_cons]; omega
    rw [e] at h
    exact h

theorem sub_lit {Q : Addr → Shared → Prop} (cs : List (Str × Str)) (hlen : cs.length ≤ 15) (hn : (cs.map (·.1)).Nodup)
    (h : ∀ h' n', h'.get? s.heap.objs.size = some (dObj w (litE s.toks cs) n') → Heap.SameBut s.heap.objs.size (s.heap.push { cls := .type "dict", data := .dict #[] }) h' →
      ∀ k, s.toks + 2 * cs.length ≤ k → Q s.heap.objs.size { s with heap := h', toks := k }) :
    wpAny (model prog w) A (subDict (litP env pos cs)) Q E s := by
  refine subDict_new (by simpa [litP] using hlen) ?_
  refine pairs_lit cs _ _ ⟨litE s.toks cs, rfl, by rw [litE_keys]; exact hn, Heap.get?_push_size _ rfl, fun h' n' hm hs k hk => h h' n' hm hs k hk⟩

variable {h₀ : Heap} {L : Addr} {mm : Str → Option Value} {news : List (Addr × Obj)}

theorem lit_display {keys : List (Option Expr)} {values : List Expr} {Q : Value → Shared → Prop} (F : Fr h₀ L s.heap mm) (N : News h₀ L s.heap news) (cs : List (Str × Str))
    (hz : (evalEachOpt keys env).zip ((evalEach values env).map fun v => do let x ← v; standAt pos; pure x) = (litP env pos cs).map fun p => (some p.1, p.2))
    (h0 : cs ≠ []) (hlen : cs.length ≤ 15) (hn : (cs.map (·.1)).Nodup) (hbig : sysModules < h₀.objs.size)
    (h : ∀ d h' n k, s.toks + 2 * cs.length ≤ k → Fr h₀ L h' mm → News h₀ L h' ((d, dObj w (litE s.toks cs) n) :: news) → (d == sysModules) = false → s.heap.objs.size ≤ d → Q (.ref d) { s with heap := h', toks := k }) :
    wpAny (model prog w) A (eval (.Dict keys values pos) env) Q E s := by
  rw [arm_eval_Dict, hz, dictDisplay_pairs _ (by simpa [litP] using h0) (by simp [litP]; omega)]
  refine wpAny_bind (wpAny_standAt (wpAny_bind (sub_lit cs hlen hn fun h' n' hm hs k hk => wpAny_pure ?_)))
  exact h _ h' n' k hk (F.filled hs) (News.filled F N hs hm) (F.notModules hbig) (Nat.le_refl _)

theorem gather_on (o : Option Addr) (f : (Option (Sem Value) × Sem Value) → (Option Addr × List (Sem Value × Sem Value)) → Sem (ForInStep (Option Addr × List (Sem Value × Sem Value))))
    (hf : ∀ (p : Sem Value × Sem Value) (run : List (Sem Value × Sem Value)), run.length + 1 < 17 → f (some p.1, p.2) (o, run) = pure (.yield (o, run ++ [p]))) :
    ∀ (items run : List (Sem Value × Sem Value)), run.length + items.length < 17 → forIn (items.map fun p => (some p.1, p.2)) (o, run) f = pure (o, run ++ items)
  | [], run, _ => by simp
  | p :: rest, run, h => by
    have h1 : run.length + 1 < 17 := by rw [List.length_cons] at h; omega
    rw [List.map_cons, List.forIn_cons, hf p run h1, pure_bind]
    have := gather_on o f hf rest (run ++ [p]) (by rw [List.length_append, List.length_singleton]; rw [List.length_cons] at h; omega)
    simpa using this

/-- `{**v, 'x': 'y', ..}` over a dict of texts -/
theorem star_display {keys : List (Option Expr)} {values : List Expr} {v : Sem Value} {Q : Value → Shared → Prop} (F : Fr h₀ L s.heap mm) (N : News h₀ L s.heap news) (cs : List (Str × Str))
    (hz : (evalEachOpt keys env).zip ((evalEach values env).map fun v => do let x ← v; standAt pos; pure x) = (none, v) :: (litP env pos cs).map fun p => (some p.1, p.2))
    (haS : (a == sysModules) = false) (ha : s.heap.get? a = some (dObj w es m))
    (hv : ∀ (Q' : Value → Shared → Prop), Q' (.ref a) { s with heap := s.heap.push { cls := .type "dict", data := .dict #[] } } → wpAny (model prog w) A v Q' E { s with heap := s.heap.push { cls := .type "dict", data := .dict #[] } })
    (h0 : cs ≠ []) (hlen : cs.length ≤ 15) (hel : es.length ≤ 15) (hn : ((es.map (·.1.1)) ++ cs.map (·.1)).Nodup)
    (hbig : sysModules < h₀.objs.size)
    (h : ∀ d h' n k, s.toks + 2 * cs.length ≤ k → Fr h₀ L h' mm → News h₀ L h' ((d, dObj w (es ++ litE s.toks cs) n) :: news) → (d == sysModules) = false → Q (.ref d) { s with heap := h', toks := k }) :
    wpAny (model prog w) A (eval (.Dict keys values pos) env) Q E s := by
  rw [arm_eval_Dict, hz]
  refine wpAny_bind (wpAny_standAt ?_)
  unfold dictDisplay
  dsimp only
  rw [List.forIn_cons]
  refine wpAny_bind (wpAny_bind ?_)
  dsimp only
  simp only [List.isEmpty_nil, if_true]
  refine wpAny_bind (wpAny_pure ?_)
  dsimp only
  refine wpAny_bind (wpAny_alloc ?_)
  refine wpAny_bind (wpAny_holding (hv _ ?_))
  have ha0 : a < s.heap.objs.size := Heap.lt_size ha
  refine wpAny_bind (wpAny_onRaise (wpAny_tryCatch (wpAny_onRaise (wpAny_holding (merge_new (acc := []) (es := es) (m := m) (n := 0) (Nat.ne_of_gt ha0) haS ?_ ?_ ?_ ?_ fun h₁ n₁ hd₁ hs₁ => ?_)))))
  rotate_left 4
  · refine wpAny_pure ?_
    dsimp only
    rw [gather_on (some s.heap.objs.size) _ (fun p run h => by
      have hne : ((run ++ [(p.1, p.2)]).length == 17) = false := by simp; omega
      simp only [hne, Bool.false_eq_true, if_false]) (litP env pos cs) [] (by simp [litP]; omega)]
    refine wpAny_pure ?_
    dsimp only
    replace hs₁ : Heap.SameBut s.heap.objs.size (s.heap.push { cls := .type "dict", data := .dict #[] }) h₁ := hs₁
    replace hd₁ : h₁.get? s.heap.objs.size = some (dObj w es n₁) := by simpa using hd₁
    have F₁ := F.filled hs₁
    have hz1 : h₁.objs.size = s.heap.objs.size + 1 := by rw [hs₁.1, Heap.size_push]
    have hp0 : ¬ ([] ++ litP env pos cs).isEmpty = true := by simp [litP, h0]
    rw [if_neg hp0]
    refine wpAny_bind (wpAny_bind (wpAny_holding (sub_lit (s := { s with heap := h₁ }) cs hlen (List.nodup_append.mp hn).2.1 fun h₂ n₂ hm₂ hs₂ k hk => ?_)))
    replace hm₂ : h₂.get? h₁.objs.size = some (dObj w (litE s.toks cs) n₂) := hm₂
    replace hs₂ : Heap.SameBut h₁.objs.size (h₁.push { cls := .type "dict", data := .dict #[] }) h₂ := hs₂
    have hne : s.heap.objs.size ≠ h₁.objs.size := by omega
    have hd₂ : h₂.get? s.heap.objs.size = some (dObj w es n₁) := (hs₂.2 _ hne).trans (Heap.get?_push_of_some _ hd₁)
    refine wpAny_bind (wpAny_onRaise (wpAny_holding (merge_new (s := { s with heap := h₂, toks := k }) hne (F₁.notModules hbig) hd₂ hm₂ ?_ ?_ fun h₃ n₃ hd₃ hs₃ => ?_)))
    · rw [List.map_append, litE_keys]; exact hn
    · rw [List.length_append, litE_length]; omega
    · refine wpAny_pure (wpAny_pure ?_)
      have F₂ := F₁.filled hs₂
      have hL : s.heap.objs.size ≠ L := Nat.ne_of_gt F.ns.lt
      have F₃ : Fr h₀ L h₃ mm := F₂.change hs₃ hL (next_is_new F)
      have N₃ : News h₀ L h₃ news := fun p hp => by
        have hlt : p.1 < s.heap.objs.size := Heap.lt_size (N p hp).1
        refine ⟨?_, (N p hp).2⟩
        have hn1 : p.1 ≠ h₁.objs.size := by rw [hz1]; exact Nat.ne_of_lt (Nat.lt_succ_of_lt hlt)
        rw [hs₃.2 _ (Nat.ne_of_lt hlt), hs₂.2 _ hn1]
        refine Heap.get?_push_of_some _ ?_
        rw [hs₁.2 _ (Nat.ne_of_lt hlt)]
        exact Heap.get?_push_of_some _ (N p hp).1
      exact h _ h₃ n₃ k hk F₃ (news_add N₃ F hd₃ (Heap.get?_none_of_le (Nat.le_refl _))) (F.notModules hbig)
  · exact Heap.get?_push_size _ rfl
  · exact Heap.get?_push_of_some _ ha
  · simpa using (List.nodup_append.mp hn).1
  · simp; omega
end
theorem gen_pos {M : Model} {A : Around} {α : Type} {t : Sem α} {Q : α → Shared → Prop} {E : Value → Shared → Prop} {h g dr X o} (H : ∀ k, 0 < k → wpAny M A t Q E ⟨h, g, dr, k, o⟩) : wpAny M A t Q E ⟨h, g, dr, X + 1, o⟩ := H _ (Nat.succ_pos _)

section
variable {prog : Program} {w : World} {A : Around} {E : Value → Shared → Prop} {s : Shared} {d it : Addr} {es : List Ent}

theorem next_item {i ep : Nat} {ok ov : Value} {x y : Str} {t u : Tok} {Q : Option Value → Shared → Prop} (hit : IsItemIter s.heap it d i es.length ep ok ov)
    (hm : s.heap.get? d = some (dObj w es ep)) (hx : es[i]? = some ((x, t), (y, u)))
    (hQ : ∀ h', IsItemIterOut h' it d (i + 1) es.length ep (.str x t) (.str y u) s.heap.objs.size →
      h'.get? s.heap.objs.size = some { cls := .type "tuple", data := .seq #[.str x t, .str y u] } → h'.objs.size = s.heap.objs.size + 1 →
      (∀ b o, b ≠ it → s.heap.get? b = some o → h'.get? b = some o) → Q (some (.ref s.heap.objs.size)) { s with heap := h' }) :
    wpAny (model prog w) A (pyNext (.ref it)) Q E s := by
  obtain ⟨hp, g, dr, tk, os⟩ := s
  have hT : Shared.TypeIs ⟨hp, g, dr, tk, os⟩ (.ref it) "dict_itemiterator" := ⟨_, hit, rfl⟩
  have hlt : i < es.length := (List.getElem?_eq_some_iff.mp hx).1
  have hown : Builtin.Dict_items.ownsTuple "dict_itemiterator" = true := by decide
  unfold pyNext
  refine wpAny_bind (wpAny_attempt (wpAny_callSpecial?_slot (name := Str.ofString "__next__") hT F.slot_dict_itemiterator_next
    (wpAny_call_entry F.slot_dict_itemiterator_next hT F.entry_dict_itemiterator_next ?_ (F.args_dict_itemiterator_next_1 _))))
  refine wpAny_bind (wpAny_pure (wpAny_bind (wpAny_bind ?_)))
  first | refine wpAny_bind (wpAny_typeNameOfWhole_itemiter hT (wpAny_pure ?_)) | refine wpAny_bind (wpAny_typeNameOf_itemiter hT (wpAny_pure ?_))
  refine wpAny_bind (wpAny_fieldsOf hit rfl ?_)
  simp only [hown, if_true]
  show wpAny _ _ (if (Value.ref d == Value.none) = true then _ else _) _ _ _
  rw [if_neg (show ¬ ((Value.ref d == Value.none) = true) from Bool.false_ne_true)]
  refine wpAny_bind (wpAny_pure (wpAny_bind (wpAny_dictEntries hm rfl ?_)))
  rw [if_neg (by rw [dEs_size]; simp)]
  refine wpAny_bind (wpAny_pure (wpAny_bind (wpAny_dictEpoch hm rfl ?_)))
  rw [if_neg (by simp)]
  refine wpAny_pure ?_
  simp only [show ¬ ((i : Int) < 0) from by omega, if_false, Int.toNat_natCast, dEs_get w es i _ hx]
  refine wpAny_bind ?_
  first | refine wpAny_bind (wpAny_typeNameOfWhole_itemiter hT (wpAny_pure ?_)) | refine wpAny_bind (wpAny_typeNameOf_itemiter hT (wpAny_pure ?_))
  refine wpAny_bind (wpAny_isOneOf_itemiter hT ?_)
  show wpAny _ _ (setField (.ref it) 3 (rawInt ((i : Int) + 1)) >>= _) _ _ ⟨hp, g, dr, tk, os⟩
  refine wpAny_bind (wpAny_setField_rec hit (by simp) fun h₁ he₁ hs₁ => ?_)
  replace hs₁ : Heap.SameBut it hp h₁ := hs₁
  replace he₁ : IsItemIter h₁ it d (i + 1) es.length ep ok ov := by
    have e : ((i + 1 : Nat) : Int) = (i : Int) + 1 := by omega
    unfold IsItemIter; rw [e]; simpa [rawInt] using he₁
  have hT₁ : Shared.TypeIs ⟨h₁, g, dr, tk, os⟩ (.ref it) "dict_itemiterator" := ⟨_, he₁, rfl⟩
  refine wpAny_bind (wpAny_holding ?_)
  refine wpAny_bind (wpAny_isOneOf_itemiter hT₁ (wpAny_bind (wpAny_isOneOf_itemiter hT₁ ?_)))
  show wpAny _ _ (Builtin.Dict_items.pairFromOwner (.ref it) 6 (.str x t) (.str y u)) _ _ ⟨h₁, g, dr, tk, os⟩
  unfold Builtin.Dict_items.pairFromOwner
  refine wpAny_bind (wpAny_newTuple ?_)
  have hz₁ : h₁.objs.size = hp.objs.size := hs₁.1
  have hil : it ≠ hp.objs.size := Nat.ne_of_lt (Heap.lt_size hit)
  have ht₂ : (h₁.push { cls := .type "tuple", data := .seq #[.str x t, .str y u] }).get? hp.objs.size = some { cls := .type "tuple", data := .seq #[.str x t, .str y u] } := by rw [← hz₁]; exact Heap.get?_push_size _ rfl
  have hk₂ : ∀ b o, b ≠ it → hp.get? b = some o → (h₁.push { cls := .type "tuple", data := .seq #[.str x t, .str y u] }).get? b = some o := fun b o hb e => Heap.get?_push_of_some _ (hs₁.extBut b o hb e)
  have he₂ : IsItemIter (h₁.push { cls := .type "tuple", data := .seq #[.str x t, .str y u] }) it d (i + 1) es.length ep ok ov := Heap.get?_push_of_some _ he₁
  have hz₂ : (h₁.push { cls := .type "tuple", data := .seq #[.str x t, .str y u] }).objs.size = hp.objs.size + 1 := by rw [Heap.size_push, hz₁]
  rw [hz₁]
  generalize h₁.push { cls := .type "tuple", data := .seq #[.str x t, .str y u] } = h₂ at ht₂ hk₂ he₂ hz₂ ⊢
  clear he₁ hs₁ hT₁ hz₁
  refine wpAny_bind ?_
  unfold Builtin.Dict_items.ownedTupleIsFree
  refine wpAny_bind (wpAny_field he₂ rfl (x := .none) rfl (wpAny_pure ?_))
  simp only [if_true]
  refine wpAny_bind (wpAny_field he₂ rfl (x := ok) rfl (wpAny_bind (wpAny_field he₂ rfl (x := ov) rfl ?_)))
  refine wpAny_bind (wpAny_setField_rec he₂ (by simp) fun h₃ he₃ hs₃ => ?_)
  replace hs₃ : Heap.SameBut it h₂ h₃ := hs₃
  replace he₃ : IsItemIter h₃ it d (i + 1) es.length ep (.str x t) ov := he₃
  refine wpAny_bind (wpAny_setField_rec he₃ (by simp) fun h₄ he₄ hs₄ => ?_)
  replace hs₄ : Heap.SameBut it h₂ h₄ := hs₃.trans hs₄
  replace he₄ : IsItemIter h₄ it d (i + 1) es.length ep (.str x t) (.str y u) := he₄
  refine wpAny_bind (wpAny_setField_rec he₄ (by simp) fun h₅ he₅ hs₅ => ?_)
  replace hs₅ : Heap.SameBut it h₂ h₅ := hs₄.trans hs₅
  replace he₅ : IsItemIterOut h₅ it d (i + 1) es.length ep (.str x t) (.str y u) hp.objs.size := he₅
  refine wpAny_bind (wpAny_setField_rec he₅ (by simp) fun h₆ he₆ hs₆ => ?_)
  replace hs₆ : Heap.SameBut it h₂ h₆ := hs₅.trans hs₆
  replace he₆ : IsItemIterOut h₆ it d (i + 1) es.length ep (.str x t) (.str y u) hp.objs.size := he₆
  exact wpAny_bind (wpAny_letGo (wpAny_pure (wpAny_pure ⟨_, rfl, wpAny_pure (hQ h₆ he₆ (hs₆.extBut _ _ (Ne.symm hil) ht₂) (hs₆.1.trans hz₂) fun b o hb e => hs₆.extBut b o hb (hk₂ b o hb e))⟩)))
end
def kvsOf (es : List Ent) : List (Str × Value) := es.map fun e => (e.1.1, .str e.2.1 e.2.2)
theorem pairsOf {prog : Program} {w : World} : ∀ es : List Ent, Pairs (PySem.strKind prog w) (dEs w es).toList (kvsOf es)
  | [] => .nil
  | e :: es => by
    have := pairsOf (prog := prog) (w := w) es
    simp only [dEs, kvsOf, List.map_cons] at this ⊢
    exact .cons (by simp [PySem.strKind, Value.isStrOf]) rfl this
theorem dObj_at {prog : Program} {w : World} {h : Heap} {d : Addr} {es : List Ent} {n : Nat} (hm : h.get? d = some (dObj w es n)) (hn : (es.map (·.1.1)).Nodup) : h.DictAt (PySem.strKind prog w) d (kvsOf es) n :=
  ⟨_, _, hm, ⟨rfl, rfl, rfl⟩, rfl, dEs_keys w es, pairsOf es, by simpa [kvsOf, Function.comp_def] using hn⟩
theorem kvsOf_length (es : List Ent) : (kvsOf es).length = es.length := by simp [kvsOf]
section
variable {prog : Program} {w : World} {A : Around} {s : Shared} {env : Env} {h₀ : Heap} {es : List Ent}

theorem forLoop_items {R : Result → Shared → Prop} {xk xv : Str} {pk pv pt : Pos} {x1} {body : List Stmt} {it d : Addr} {ep : Nat} {m : Str → Option Value} {news : List (Addr × Obj)}
    (hh : A.handled = none) (hxk : env.kindOf xk = some .local) (hxv : env.kindOf xv = some .local)
    (hp : (env.scope.kind == .class || (env.scope.kind == .module && env.locals != env.globals)) = false)
    (hiL : it ≠ env.locals) (hdL : d ≠ env.locals) (hdi : d ≠ it) (hin : h₀.get? it = none) (hnw : ∀ p ∈ news, p.1 ≠ it) (hn : (es.map (·.1.1)).Nodup)
    (hit : IsItemIter s.heap it d 0 es.length ep .none .none) (hm : s.heap.get? d = some (dObj w es ep)) (F : Fr h₀ env.locals s.heap m) (N : News h₀ env.locals s.heap news)
    (J : Nat → (Str → Option Value) → Prop) (h0 : J 0 m)
    (step : ∀ i x t y u m₁ s₁ own, es[i]? = some ((x, t), (y, u)) → J i m₁ → s₁.heap.get? d = some (dObj w es ep) →
      Fr h₀ env.locals s₁.heap (fun z => if z = xv then some (.str y u) else if z = xk then some (.str x t) else m₁ z) → News h₀ env.locals s₁.heap (own ++ news) →
      wpAny (model prog w) A (execs body env) (LoopStep h₀ env.locals (own ++ news) (J (i + 1)) s₁) (notedBy (model prog w) A env fun e s' => R (.error e) s') s₁)
    (hR : ∀ h' tk m', Fr h₀ env.locals h' m' → News h₀ env.locals h' news → J es.length m' → R (.ok .next) { s with heap := h', toks := tk }) :
    codeAny (model prog w) A (.forLoop (.Tuple [.Name xk pk, .Name xv pv] x1 pt) (.ref it) body [] env) R s := by
  have hLf : env.locals ∉ [it, d] := by
    intro hx
    rcases List.mem_cons.mp hx with e | hx
    · exact hiL e.symm
    · exact hdL (List.mem_singleton.mp hx).symm
  refine codeAny_forLoop_any
    (fun n s' => ∃ h' tk m' i ok ov, s' = { s with heap := h', toks := tk } ∧ IsItemIter h' it d i es.length ep ok ov ∧ h'.get? d = some (dObj w es ep) ∧ Fr h₀ env.locals h' m' ∧ News h₀ env.locals h' news ∧ J i m' ∧ i ≤ es.length ∧
      n = es.length + 1 - i) ?_ (es.length + 1)
    ⟨s.heap, s.toks, m, 0, .none, .none, rfl, hit, hm, F, N, h0, Nat.zero_le _, rfl⟩
  rintro n s' ⟨H, tk, m', i, ok, ov, rfl, hit', hm', F', N', hJ, hi, rfl⟩
  have oldNe : ∀ b o, h₀.get? b = some o → b ≠ it := fun b o e q => by rw [q, hin] at e; cases e
  cases hv : es[i]? with
  | none =>
    have hsz : i = es.length := Nat.le_antisymm hi (by simpa using hv)
    refine wpAny_pyNext_items_end (knd := PySem.strKind prog w) (kvs := kvsOf es) (d := d) (i := i) (ep := ep) (ok := ok) (ov := ov) hh (by rw [kvsOf_length]; exact hit') (dObj_at hm' hn) (by rw [kvsOf, List.getElem?_map, hv]; rfl) fun h₁ he₁ => wpAny_execs_nil ?_
    replace he₁ : Heap.ExtBut it H h₁ := he₁
    exact hR h₁ tk m' ⟨F'.ns.extBut he₁ (Ne.symm hiL), fun b o e => he₁ b o (oldNe b o e) (F'.keep b o e), F'.above⟩
      (fun p hp => ⟨he₁ _ _ (hnw p hp) (N' p hp).1, (N' p hp).2⟩) (hsz ▸ hJ)
  | some e =>
    obtain ⟨⟨x, t⟩, ⟨y, u⟩⟩ := e
    have hlt : i < es.length := (List.getElem?_eq_some_iff.mp hv).1
    have hiH : it < H.objs.size := Heap.lt_size hit'
    have hLH : env.locals < H.objs.size := F'.ns.lt
    have hdH : d < H.objs.size := Heap.lt_size hm'
    refine next_item hit' hm' hv fun h₁ heo ht₁ hz₁ hk₁ => ?_
    refine wpAny_letOwnedTupleGo_items heo fun h₂ he₂ hs₂ => ?_
    replace hs₂ : Heap.SameBut it h₁ h₂ := hs₂
    have ht₂ : h₂.IsTuple H.objs.size #[.str x t, .str y u] := ⟨_, (hs₂.2 _ (Nat.ne_of_gt hiH)).trans ht₁, rfl, _, rfl⟩
    have hz₂ : h₂.objs.size = H.objs.size + 1 := hs₂.1.trans hz₁
    refine wpAny_assign_Tuple hh ht₂ rfl rfl fun h₃ hx₃ => ?_
    replace hx₃ : Heap.ExtBut h₂.objs.size h₂ h₃ := hx₃
    have old₃ : ∀ b o, b < H.objs.size → h₂.get? b = some o → h₃.get? b = some o := fun b o hb x => hx₃ b o (by rw [hz₂]; exact Nat.ne_of_lt (Nat.lt_succ_of_lt hb)) x
    have up₃ : ∀ b o, b ≠ it → H.get? b = some o → h₃.get? b = some o := fun b o hb x => old₃ b o (Heap.lt_size x) (hs₂.extBut b o hb (hk₁ b o hb x))
    have F₃ : Fr h₀ env.locals h₃ m' := ⟨F'.ns.at fun o x => up₃ _ o (Ne.symm hiL) x, fun b o e => up₃ b o (oldNe b o e) (F'.keep b o e), F'.above⟩
    have N₃ : News h₀ env.locals h₃ news := fun p hp => ⟨up₃ _ _ (hnw p hp) (N' p hp).1, (N' p hp).2⟩
    show wpAny _ _ (do holding [.str y u] (assign (.Name xk pk) env (.str x t)); do holding [] (assign (.Name xv pv) env (.str y u)); pure ()) _ _ _
    refine wpAny_bind (wpAny_holding (wpAny_assign_Name (wpAny_storeName_local hxk F₃.ns (fun h₄ hn₄ hs₄ => ?_) hp)))
    replace hs₄ : Heap.SameBut env.locals h₃ h₄ := hs₄
    have F₄ := F₃.set hn₄ hs₄
    refine wpAny_bind (wpAny_holding (wpAny_assign_Name (wpAny_storeName_local hxv F₄.ns (fun h₅ hn₅ hs₅ => wpAny_pure ?_) hp)))
    replace hs₅ : Heap.SameBut env.locals h₄ h₅ := hs₅
    have F₅ := F₄.set hn₅ hs₅
    have N₅ : News h₀ env.locals h₅ news := (N₃.set hs₄).set hs₅
    have up₅ : ∀ b o, b ≠ env.locals → b < H.objs.size → h₂.get? b = some o → h₅.get? b = some o := fun b o hbL hb x => hs₅.extBut b o hbL (hs₄.extBut b o hbL (old₃ b o hb x))
    have hm₅ : h₅.get? d = some (dObj w es ep) := up₅ d _ hdL hdH (hs₂.extBut d _ hdi (hk₁ d _ hdi hm'))
    have hit₅ := up₅ it _ hiL hiH he₂
    refine wpAny_mono (step i x t y u m' _ (ownOf h₀ [it, d] h₅) hv hJ hm₅ F₅ ((news_ownOf hLf).append N₅)) (fun f s₃ h₆ => ?_) fun _ _ x => x
    obtain ⟨rfl, h₆, tk₆, m₂, rfl, F₆, N₆, hJ₆⟩ := h₆
    have keep₆ : ∀ b ∈ [it, d], ∀ o, h₅.get? b = some o → h₆.get? b = some o := fun b hb o e => by
      cases hn : h₀.get? b with
      | some o₀ =>
        have : o₀ = o := by have q := F₅.keep b o₀ hn; rw [e] at q; exact (Option.some.inj q).symm
        exact this ▸ F₆.keep b o₀ hn
      | none => exact (N₆ _ (List.mem_append_left _ (mem_ownOf hb hn e))).1
    exact ⟨es.length + 1 - (i + 1), by omega, h₆, tk₆, m₂, i + 1, .str x t, .str y u, rfl, keep₆ it (by simp) _ hit₅, keep₆ d (by simp) _ hm₅, F₆, N₆.right, hJ₆, hlt, rfl⟩

theorem iter_items {E : Value → Shared → Prop} {Q : Flow → Shared → Prop} {xk xv : Str} {body : List Stmt} {d vw : Addr} {ep : Nat} {m : Str → Option Value} {news : List (Addr × Obj)}
    (hh : A.handled = none) (hxk : env.kindOf xk = some .local) (hxv : env.kindOf xv = some .local)
    (hp : (env.scope.kind == .class || (env.scope.kind == .module && env.locals != env.globals)) = false) (hn : (es.map (·.1.1)).Nodup)
    (hvw : s.heap.IsItemsView vw d) (hm : s.heap.get? d = some (dObj w es ep)) (F : Fr h₀ env.locals s.heap m) (N : News h₀ env.locals s.heap news) (hdL : d ≠ env.locals)
    (J : Nat → (Str → Option Value) → Prop) (h0 : J 0 m)
    (step : ∀ i x t y u m₁ s₁ own, es[i]? = some ((x, t), (y, u)) → J i m₁ →
      Fr h₀ env.locals s₁.heap (fun z => if z = xv then some (.str y u) else if z = xk then some (.str x t) else m₁ z) → News h₀ env.locals s₁.heap (own ++ news) →
      wpAny (model prog w) A (execs body env) (LoopStep h₀ env.locals (own ++ news) (J (i + 1)) s₁) E s₁)
    (done : ∀ h' tk m', Fr h₀ env.locals h' m' → News h₀ env.locals h' news → J es.length m' → Q .next { s with heap := h', toks := tk })
    (hE : PassesOwn (model prog w) A env E := by passes_own) :
    wpAny (model prog w) A (pyIter (.ref vw)) (fun it s₂ => PairLoopAt prog w A h₀ env xk xv body Q E it s₂) E s := by
  refine wpAny_pyIter_items (knd := PySem.strKind prog w) (d := d) (kvs := kvsOf es) (ep := ep) hvw (dObj_at hm hn) ?_
  intro pk pv pt x1
  have hlt : d < s.heap.objs.size := Heap.lt_size hm
  refine forLoop_items (h₀ := h₀) (news := news) (d := d) (ep := ep) (m := m) hh hxk hxv hp (Nat.ne_of_gt F.ns.lt) hdL (Nat.ne_of_lt hlt) (next_is_new F)
    (fun p hp => Nat.ne_of_lt (Heap.lt_size (N p hp).1)) hn (by rw [← kvsOf_length es]; exact Heap.get?_push_size _ rfl) (Heap.get?_push_of_some _ hm) (F.push _) (fun p hp => ⟨Heap.get?_push_of_some _ (N p hp).1, (N p hp).2⟩) J h0 ?_ ?_
  · intro i x t y u m₁ s₁ own hx hJ hm₁ F₁ N₁
    exact wpAny_passesOwn hE (step i x t y u m₁ s₁ own hx hJ F₁ N₁)
  · intro h' tk m' F' N' hJ
    exact done h' tk m' F' N' hJ
end
set_option maxRecDepth 100000
set_option maxHeartbeats 4000000
/-- the entries' replacements, one after the other -/
def replAll (x : Str) (es : List Ent) : Str := es.foldl (fun s e => Txt.replace s e.1.1 e.2.1) x
theorem replAll_take (x : Str) (es : List Ent) (i : Nat) (e : Ent) (h : es[i]? = some e) : replAll x (es.take (i + 1)) = Txt.replace (replAll x (es.take i)) e.1.1 e.2.1 := by
  simp [replAll, List.take_add_one, h, List.foldl_append]
/-- what str.replace asks of an entry -/
def EntOk (e : Ent) : Prop := e.1.2 ≠ 0 ∧ e.2.2 ≠ 0 ∧ e.1.2 ≠ e.2.2 ∧ (e.1.1 == e.2.1) = false ∧ e.2.1.length ≤ 14
def repJ (x : Str) (es : List Ent) (m₀ : Str → Option Value) (i : Nat) (m : Str → Option Value) : Prop :=
  ∃ kk vv t, m = fun z => if z = Str.ofString "value" then vv else if z = Str.ofString "key" then kk else if z = Str.ofString "s" then some (.str (replAll x (es.take i)) t) else m₀ z

theorem repJ_start {x : Str} {es : List Ent} {m₀ : Str → Option Value} {t : Tok} (hs : m₀ (Str.ofString "s") = some (.str x t)) : repJ x es m₀ 0 m₀ := by
  refine ⟨m₀ (Str.ofString "key"), m₀ (Str.ofString "value"), t, funext fun z => ?_⟩
  by_cases h1 : z = Str.ofString "value"
  · rw [if_pos h1, h1]
  by_cases h2 : z = Str.ofString "key"
  · rw [if_neg h1, if_pos h2, h2]
  by_cases h3 : z = Str.ofString "s"
  · rw [if_neg h1, if_neg h2, if_pos h3, h3, hs]; rfl
  · rw [if_neg h1, if_neg h2, if_neg h3]
theorem repJ_next {x : Str} {es : List Ent} {m₀ m m' : Str → Option Value} {i : Nat} {e : Ent} {t : Tok} (h : repJ x es m₀ i m) (he : es[i]? = some e)
    (hs : m' (Str.ofString "s") = some (.str (Txt.replace (replAll x (es.take i)) e.1.1 e.2.1) t)) (hm : ∀ z, z ≠ Str.ofString "value" → z ≠ Str.ofString "key" → z ≠ Str.ofString "s" → m' z = m z) : repJ x es m₀ (i + 1) m' := by
  obtain ⟨kk, vv, t', rfl⟩ := h
  refine ⟨m' (Str.ofString "key"), m' (Str.ofString "value"), t, funext fun z => ?_⟩
  by_cases h1 : z = Str.ofString "value"
  · rw [if_pos h1, h1]
  by_cases h2 : z = Str.ofString "key"
  · rw [if_neg h1, if_pos h2, h2]
  by_cases h3 : z = Str.ofString "s"
  · rw [if_neg h1, if_neg h2, if_pos h3, h3, hs, replAll_take x es i e he]
  · rw [if_neg h1, if_neg h2, if_neg h3, hm z h1 h2 h3]
    dsimp only
    rw [if_neg h1, if_neg h2, if_neg h3]

theorem c_dict_replace (w : World) (x : Str) (t : Tok) (d : Addr) (es : List Ent) (n : Nat) (hdS : (d == sysModules) = false) (hn : (es.map (·.1.1)).Nodup) (hok : ∀ e ∈ es, EntOk e) (hsz : ∀ i < es.length, (replAll x (es.take i)).length ≤ 1048576) :
    ConV w 1 8 28 [.str x t, .ref d] [] (fun s => s.heap.get? d = some (dObj w es n)) (fun t => .str (replAll x es) t) := by
  walk_at "my fill"
  intro mean mg mb dp un gd cn cs a ccd cl outer A₀ base h₀ L m s Q E B F X T hk hd hu hpre hret
  refine wpAny_with_toks (Nat.le_refl _) ?_
  walk_at "my enter"
  k_steps
  rename Fr _ _ _ _ => F1
  rename News _ _ _ _ => N1
  refine For_pair_inv s.heap ?_
  have hm : ∀ h' : Heap, (∀ b o, s.heap.get? b = some o → h'.get? b = some o) → h'.get? d = some (dObj w es n) := fun h' hk' => hk' _ _ hpre
  refine wpAny_Call_items (knd := PySem.strKind _ w) (kvs := kvsOf es) hdS (dObj_at (hm _ F1.keep) hn).dictOf rfl rfl ?_ ?_
  · intro Q' hq'
    k_steps
    exact hq'
  · refine iter_items (es := es) (d := d) (ep := n) (news := []) rfl rfl rfl rfl hn ⟨_, Heap.get?_push_size _ rfl, rfl, rfl⟩ (Heap.get?_push_of_some _ (hm _ F1.keep)) (F1.push _) News.nil ?_ (repJ x es _) (repJ_start (t := t) (by with_unfolding_all rfl)) ?_ ?_
    · exact Nat.ne_of_lt (Nat.lt_of_lt_of_le (Heap.lt_size hpre) F1.above)
    · intro i x₁ t₁ y u m₁ s₁ own he hJ F2 N2
      have hJ' := hJ
      obtain ⟨kk, vv, t', rfl⟩ := hJ'
      obtain ⟨e1, e2, e3, e4, e5⟩ := hok _ (List.mem_of_getElem? he)
      have e6 := hsz i (List.getElem?_eq_some_iff.mp he).1
      clear F1 N1
      k_steps
      exact repJ_next hJ he (if_pos rfl) fun z h1 h2 h3 => by simp only [if_neg h1, if_neg h2, if_neg h3]
    · intro h' tk' m' F2 N2 hJ
      clear F1 N1
      obtain ⟨kk, vv, t', rfl⟩ := hJ
      rw [List.take_length] at F2
      k_steps
      all_goals walk_at "my end"
      all_goals (try intro ht)
      refine ret_str hret rfl (by assumption) (Fr.keep (by k_asm))
set_option maxRecDepth 100000
set_option maxHeartbeats 4000000
abbrev esc1 (x : Str) : Str := Txt.replace x (Str.ofString "&") (Str.ofString "&amp;")
abbrev esc2 (x : Str) : Str := Txt.replace (esc1 x) (Str.ofString ">") (Str.ofString "&gt;")
abbrev esc3 (x : Str) : Str := Txt.replace (esc2 x) (Str.ofString "<") (Str.ofString "&lt;")

theorem gen_pos2 {M : Model} {A : Around} {α : Type} {t : Sem α} {Q : α → Shared → Prop} {E : Value → Shared → Prop} {h g dr X o} (hX : 0 < X) (H : ∀ k, 0 < k → wpAny M A t Q E ⟨h, g, dr, k, o⟩) : wpAny M A t Q E ⟨h, g, dr, X, o⟩ := H _ hX
theorem words15 : True := by
  k_with "execs cons" => (k_here; refine' gen_pos2 ?zq15x0hpos ?_; (case zq15x0hpos => first | exact Nat.succ_pos _ | with_unfolding_all exact Nat.succ_pos _); intro tkp htkp)
  k_with "execs nil" => (k_here; refine' gen_pos2 ?zq15x1hpos ?_; (case zq15x1hpos => first | exact Nat.succ_pos _ | with_unfolding_all exact Nat.succ_pos _); intro tkp htkp)
  k_with "call builtin:str.replace" => (k_here; dsimp only [List.cons_append, List.nil_append]; refine' SC.replaceW ?zq15x2hu ?zq15x2hv ?zq15x2huv ?zq15x2hyz ?zq15x2hx ?zq15x2hz ?_; (case zq15x2hu => first | omega | ((show @Ne Nat _ _); omega)); (case zq15x2hv => first | omega | ((show @Ne Nat _ _); omega)); (case zq15x2huv => first | omega | ((show @Ne Nat _ _); omega)); (case zq15x2hyz => first | decide | assumption); (case zq15x2hx => first | assumption | omega); (case zq15x2hz => first | decide | assumption | omega); intro t' k')
  trivial
theorem truthy_dObj {prog : Program} {w : World} {A : Around} {E : Value → Shared → Prop} {s : Shared} {d : Addr} {es : List Ent} {n : Nat} {Q : Bool → Shared → Prop} (hdS : (d == sysModules) = false) (hm : s.heap.get? d = some (dObj w es n))
    (hn : (es.map (·.1.1)).Nodup) (hne : es ≠ []) (hel : es.length ≤ 64) (h : Q true { s with toks := s.toks + 1 + 1 }) : wpAny (model prog w) A (truthy (.ref d)) Q E s := by
  refine wpAny_truthy_dict (knd := PySem.strKind prog w) hdS (dObj_at hm hn).dictOf (by rw [kvsOf_length]; omega) ?_
  have : kvsOf es ≠ [] := by simpa [kvsOf] using hne
  cases hk : kvsOf es with
  | nil => exact absurd hk this
  | cons _ _ => exact h
theorem words16 : True := by
  k_with "truthy ref" => (k_here; (refine' truthy_dObj ?zq16x0t1 ?zq16x0t2 ?zq16x0t3 ?zq16x0t4 ?zq16x0t5 ?_; (case zq16x0t1 => assumption); (case zq16x0t2 => exact Fr.keep (by k_asm) _ _ (by assumption)); (case zq16x0t3 => assumption); (case zq16x0t4 => assumption); (case zq16x0t5 => assumption)))
  k_with "call ref" => (k_here; (k_dflt (refine' use_V (c_dict_replace _ _ _ _ _ _ ?zq16x1q1 ?zq16x1q2 ?zq16x1q3 ?zq16x1q4) ?zq16x1kB ?zq16x1kF ?zq16x1kN ?zq16x1kX ?zq16x1kT ?zq16x1kk ?zq16x1kD ?zq16x1kU ?zq16x1kp ?_)); (case zq16x1kp => exact Fr.keep (by k_asm) _ _ (by assumption)); (case zq16x1q1 => assumption); (case zq16x1q2 => assumption); (case zq16x1q3 => assumption); (case zq16x1q4 => assumption); (case zq16x1kB => k_asm); (case zq16x1kF => k_asm); (case zq16x1kN => k_asm); (case zq16x1kX => k_asm); (case zq16x1kT => k_asm); (case zq16x1kk => first | exact rfl | assumption); (case zq16x1kD => ktr_room); (case zq16x1kU => ktr_units); intro t9 h9 tk9 ht9 F9 N9; (try dsimp only); (try k_sweep))
  trivial
theorem c_escape (w : World) (x : Str) (t : Tok) (d : Addr) (es : List Ent) (n : Nat) (hdS : (d == sysModules) = false) (hn : (es.map (·.1.1)).Nodup) (hne : es ≠ []) (hel : es.length ≤ 64) (hok : ∀ e ∈ es, EntOk e)
    (h1 : x.length ≤ 1048576) (h2 : (esc1 x).length ≤ 1048576) (h3 : (esc2 x).length ≤ 1048576) (hsz : ∀ i < es.length, (replAll (esc3 x) (es.take i)).length ≤ 1048576) :
    ConV w 2 16 37 [.str x t, .ref d] [] (fun s => s.heap.get? d = some (dObj w es n)) (fun t => .str (replAll (esc3 x) es) t) := by
  walk_at "my fill"
  intro mean mg mb dp un gd cn cs a ccd cl outer A₀ base h₀ L m s Q E B F X T hk hd hu hpre hret
  refine wpAny_with_toks (Nat.le_refl _) ?_
  walk_at "my enter"
  k_steps
  all_goals walk_at "my end"
  all_goals (try intro ht)
  refine ret_str hret rfl (by assumption) (Fr.keep (by k_asm))
set_option maxRecDepth 100000
set_option maxHeartbeats 4000000
abbrev une1 (x : Str) : Str := Txt.replace x (Str.ofString "&lt;") (Str.ofString "<")
abbrev une2 (x : Str) : Str := Txt.replace (une1 x) (Str.ofString "&gt;") (Str.ofString ">")
abbrev une4 (x : Str) (es : List Ent) : Str := Txt.replace (replAll (une2 x) es) (Str.ofString "&amp;") (Str.ofString "&")
theorem c_unescape (w : World) (x : Str) (t : Tok) (d : Addr) (es : List Ent) (n : Nat) (hdS : (d == sysModules) = false) (hn : (es.map (·.1.1)).Nodup) (hne : es ≠ []) (hel : es.length ≤ 64) (hok : ∀ e ∈ es, EntOk e)
    (h1 : x.length ≤ 1048576) (h2 : (une1 x).length ≤ 1048576) (hsz : ∀ i < es.length, (replAll (une2 x) (es.take i)).length ≤ 1048576) (h3 : (replAll (une2 x) es).length ≤ 1048576) :
    ConV w 2 16 46 [.str x t, .ref d] [] (fun s => s.heap.get? d = some (dObj w es n)) (fun t => .str (une4 x es) t) := by
  walk_at "my fill"
  intro mean mg mb dp un gd cn cs a ccd cl outer A₀ base h₀ L m s Q E B F X T hk hd hu hpre hret
  refine wpAny_with_toks (Nat.le_refl _) ?_
  walk_at "my enter"
  k_steps
  all_goals walk_at "my end"
  all_goals (try intro ht)
  refine ret_str hret rfl (by assumption) (Fr.keep (by k_asm))
set_option maxRecDepth 100000
set_option maxHeartbeats 4000000
def replP (x : Str) (ps : List (Str × Str)) : Str := ps.foldl (fun s p => Txt.replace s p.1 p.2) x
def textsOf (es : List Ent) : List (Str × Str) := es.map fun e => (e.1.1, e.2.1)
theorem replAll_texts (x : Str) (es : List Ent) : replAll x es = replP x (textsOf es) := by simp [replAll, replP, textsOf, List.foldl_map]
theorem texts_litE : ∀ (k : Nat) (cs : List (Str × Str)), textsOf (litE k cs) = cs
  | _, [] => rfl
  | k, c :: r => by have := texts_litE (k + 2) r; simp only [textsOf, litE, List.map_cons] at this ⊢; rw [this]
theorem texts_append (a b : List Ent) : textsOf (a ++ b) = textsOf a ++ textsOf b := by simp [textsOf]
theorem texts_keys (a : List Ent) : (textsOf a).map (·.1) = a.map (·.1.1) := by simp [textsOf, Function.comp_def]
theorem litE_ok : ∀ (cs : List (Str × Str)) (k : Nat), 0 < k → (∀ c ∈ cs, (c.1 == c.2) = false ∧ c.2.length ≤ 14) → ∀ e ∈ litE k cs, EntOk e
  | [], _, _, _, e, he => by cases he
  | c :: r, k, hk, h, e, he => by
    rw [litE] at he
    rcases List.mem_cons.mp he with rfl | he
    · have := h c List.mem_cons_self
      refine ⟨?_, ?_, ?_, this.1, this.2⟩
      · show k ≠ 0; omega
      · show k + 1 ≠ 0; omega
      · show k ≠ k + 1; omega
    · exact litE_ok r (k + 2) (by omega) (fun c hc => h c (List.mem_cons_of_mem _ hc)) e he
def qcs : List (Str × Str) := [(Str.ofString "\n", Str.ofString "&#10;"), (Str.ofString "\x0d", Str.ofString "&#13;"), (Str.ofString "\t", Str.ofString "&#9;")]
theorem texts_take (a : List Ent) (i : Nat) : textsOf (a.take i) = (textsOf a).take i := by simp [textsOf, List.map_take]
theorem good_entries {x : Str} {es : List Ent} {k : Nat} (hk : 0 < k) (hn : (es.map (·.1.1) ++ qcs.map (·.1)).Nodup) (hel : es.length ≤ 4) (hok : ∀ e ∈ es, EntOk e)
    (hsz : ∀ i < es.length + 3, (replP (esc3 x) ((textsOf es ++ qcs).take i)).length ≤ 1048576) (h5 : (replP (esc3 x) (textsOf es ++ qcs)).length ≤ 200) (h6 : (Txt.replace (replP (esc3 x) (textsOf es ++ qcs)) (Str.ofString "\"") (Str.ofString "&quot;")).length ≤ 200) :
    ((es ++ litE k qcs).map (·.1.1)).Nodup ∧ es ++ litE k qcs ≠ [] ∧ (es ++ litE k qcs).length ≤ 64 ∧ (∀ e ∈ es ++ litE k qcs, EntOk e) ∧
    (∀ i < (es ++ litE k qcs).length, (replAll (esc3 x) ((es ++ litE k qcs).take i)).length ≤ 1048576) ∧ replAll (esc3 x) (es ++ litE k qcs) = replP (esc3 x) (textsOf es ++ qcs) ∧
    (replAll (esc3 x) (es ++ litE k qcs)).length ≤ 200 ∧ (replAll (esc3 x) (es ++ litE k qcs)).length ≤ 1048576 ∧ (Txt.replace (replAll (esc3 x) (es ++ litE k qcs)) (Str.ofString "\"") (Str.ofString "&quot;")).length ≤ 200 := by
  have ee : replAll (esc3 x) (es ++ litE k qcs) = replP (esc3 x) (textsOf es ++ qcs) := by rw [replAll_texts, texts_append, texts_litE]
  refine ⟨?_, ?_, ?_, ?_, ?_, ee, ee ▸ h5, ee ▸ (Nat.le_trans h5 (by decide)), ee ▸ h6⟩
  · rw [List.map_append, litE_keys]; exact hn
  · simp [qcs, litE]
  · rw [List.length_append, litE_length]; simp [qcs]; omega
  · exact fun e he => (List.mem_append.mp he).elim (hok e) (litE_ok qcs k hk (by decide) e)
  · intro i hi
    rw [replAll_texts, texts_take, texts_append, texts_litE]
    refine hsz i ?_
    rw [List.length_append, litE_length] at hi
    exact hi
theorem words17 : True := by
  k_with "call ref" => (k_here; (k_dflt (refine' use_V (c_escape _ _ _ _ _ _ ?zq17x0q1 ?zq17x0q2 ?zq17x0q3 ?zq17x0q4 ?zq17x0q5 ?zq17x0q6 ?zq17x0q7 ?zq17x0q8 ?zq17x0q9) ?zq17x0kB ?zq17x0kF ?zq17x0kN ?zq17x0kX ?zq17x0kT ?zq17x0kk ?zq17x0kD ?zq17x0kU ?zq17x0kp ?_)); (case zq17x0kp => exact News.get (by k_asm) (by k_mem)); (case zq17x0q1 => assumption); (case zq17x0q2 => assumption); (case zq17x0q3 => assumption); (case zq17x0q4 => assumption); (case zq17x0q5 => assumption); (case zq17x0q6 => assumption); (case zq17x0q7 => assumption); (case zq17x0q8 => assumption); (case zq17x0q9 => assumption); (case zq17x0kB => k_asm); (case zq17x0kF => k_asm); (case zq17x0kN => k_asm); (case zq17x0kX => k_asm); (case zq17x0kT => k_asm); (case zq17x0kk => first | exact rfl | assumption); (case zq17x0kD => ktr_room); (case zq17x0kU => ktr_units); intro t9 h9 tk9 ht9 F9 N9; (try dsimp only); (try k_sweep))
  trivial
def lacks (z y : Str) : Bool := (Builtin.Str.occurrences z y 0 z.length 1).isEmpty
def quoteS (z : Str) : Str := if lacks z (Str.ofString "\"") = true then Str.ofString "\"" ++ z ++ Str.ofString "\"" else if lacks z (Str.ofString "'") = true then Str.ofString "'" ++ z ++ Str.ofString "'"
  else Str.ofString "\"" ++ Txt.replace z (Str.ofString "\"") (Str.ofString "&quot;") ++ Str.ofString "\""
theorem quote_a {z : Str} (h : (Builtin.Str.occurrences z (Str.ofString "\"") 0 z.length 1).isEmpty = true) : Str.ofString "\"" ++ z ++ Str.ofString "\"" = quoteS z := (if_pos h).symm
theorem quote_b {z : Str} (h : (Builtin.Str.occurrences z (Str.ofString "\"") 0 z.length 1).isEmpty = false) (h' : (Builtin.Str.occurrences z (Str.ofString "'") 0 z.length 1).isEmpty = true) : Str.ofString "'" ++ z ++ Str.ofString "'" = quoteS z := by
  unfold quoteS; rw [if_neg (by rw [lacks, h]; exact Bool.false_ne_true), if_pos (show lacks z (Str.ofString "'") = true from h')]
theorem quote_c {z : Str} (h : (Builtin.Str.occurrences z (Str.ofString "\"") 0 z.length 1).isEmpty = false) (h' : (Builtin.Str.occurrences z (Str.ofString "'") 0 z.length 1).isEmpty = false) :
    Str.ofString "\"" ++ Txt.replace z (Str.ofString "\"") (Str.ofString "&quot;") ++ Str.ofString "\"" = quoteS z := by
  unfold quoteS; rw [if_neg (by rw [lacks, h]; exact Bool.false_ne_true), if_neg (by rw [lacks, h']; exact Bool.false_ne_true)]
theorem fmt_dq {w : World} {A : Around} {E Q : Value → Shared → Prop} {s : Shared} {x : Str} {t u : Tok} (hx : x.length ≤ 200) (h : ∀ t' k, Q (.str (Str.ofString "\"" ++ x ++ Str.ofString "\"") t') { s with toks := k }) :
    wpAny (model PySem.Challenge.rw_il0037_01.row.prog w) A (binaryOp .Mod (.str (Str.ofString "\"%s\"") t) (.str x u)) Q E s := by
  w_on
  refine' KPc.mod_str ?kpcF ?kpcl ?kpcm ?_
  case kpcF => kpc_eq
  case kpcl => kpc_size
  case kpcm => kpc_run_s
  intro _ _
  exact h _ _
theorem fmt_sq {w : World} {A : Around} {E Q : Value → Shared → Prop} {s : Shared} {x : Str} {t u : Tok} (hx : x.length ≤ 200) (h : ∀ t' k, Q (.str (Str.ofString "'" ++ x ++ Str.ofString "'") t') { s with toks := k }) :
    wpAny (model PySem.Challenge.rw_il0037_01.row.prog w) A (binaryOp .Mod (.str (Str.ofString "'%s'") t) (.str x u)) Q E s := by
  w_on
  refine' KPc.mod_str ?kpcF ?kpcl ?kpcm ?_
  case kpcF => kpc_eq
  case kpcl => kpc_size
  case kpcm => kpc_run_s
  intro _ _
  exact h _ _
theorem words18 : True := by
  k_with "binaryOp Mod str str" => (k_here; (first | refine fmt_dq (by assumption) ?_ | refine fmt_sq (by assumption) ?_); intro _ _)
  trivial
theorem c_quoteattr (w : World) (x : Str) (t : Tok) (d : Addr) (es : List Ent) (n : Nat) (hdS : (d == sysModules) = false) (hn : (es.map (·.1.1) ++ qcs.map (·.1)).Nodup) (hel : es.length ≤ 4) (hok : ∀ e ∈ es, EntOk e)
    (h1 : x.length ≤ 1048576) (h2 : (esc1 x).length ≤ 1048576) (h3 : (esc2 x).length ≤ 1048576) (hsz : ∀ i < es.length + 3, (replP (esc3 x) ((textsOf es ++ qcs).take i)).length ≤ 1048576)
    (h5 : (replP (esc3 x) (textsOf es ++ qcs)).length ≤ 200) (h6 : (Txt.replace (replP (esc3 x) (textsOf es ++ qcs)) (Str.ofString "\"") (Str.ofString "&quot;")).length ≤ 200) :
    ConV w 3 24 55 [.str x t, .ref d] [] (fun s => s.heap.get? d = some (dObj w es n)) (fun t => .str (quoteS (replP (esc3 x) (textsOf es ++ qcs))) t) := by
  walk_at "my fill"
  intro mean mg mb dp un gd cn cs a ccd cl outer A₀ base h₀ L m s Q E B F X T hk hd hu hpre hret
  refine wpAny_with_toks (Nat.le_refl _) ?_
  walk_at "my enter"
  k_steps
  rename Fr _ _ _ _ => F1
  rename News _ _ _ _ => N1
  rename 0 < _ => hpos
  have hbig : sysModules < s.heap.objs.size := Nat.lt_of_lt_of_le (modules_low T.nolimit) (Nat.le_trans F.above (Nat.le_of_lt F.ns.lt))
  refine star_display F1 N1 qcs rfl hdS (F1.keep _ _ hpre) ?_ (by decide) (by decide) (by omega) hn hbig ?_
  · intro Q' hq'
    have F2 := F1.push { cls := .type "dict", data := .dict #[] }
    have N2 := N1
    refine wpAny_bind ?_
    clear F1
    k_steps
    exact wpAny_bind (wpAny_standAt (wpAny_pure hq'))
  intro d' h' n' k hk' F2 N2 hdS'
  obtain ⟨g1, g2, g3, g4, g5, g6, g7, g8, g9⟩ := good_entries (x := x) hpos hn hel hok hsz h5 h6
  clear F1 N1
  k_steps
  all_goals walk_at "my end"
  all_goals (try intro ht)
  all_goals rw [← g6] at hret
  · exact ret_str hret (quote_a (by assumption)) (by assumption) (Fr.keep (by k_asm))
  · exact ret_str hret (quote_b (by assumption) (by assumption)) (by assumption) (Fr.keep (by k_asm))
  · exact ret_str hret (quote_c (by assumption) (by assumption)) (by assumption) (Fr.keep (by k_asm))
set_option maxRecDepth 100000
set_option maxHeartbeats 4000000
/-- a new dict of texts: the pairs, the tokens untold -/
def OutTexts (w : World) (ps : List (Str × Str)) : Heap → Heap → Value → Prop := fun h h' v => ∃ d es n, v = .ref d ∧ h.get? d = none ∧ h'.get? d = some (dObj w es n) ∧ textsOf es = ps ∧ (d == sysModules) = false ∧ h.objs.size ≤ d
def refsP : List (Str × Str) := [(Str.ofString "&", Str.ofString "&amp;"), (Str.ofString "<", Str.ofString "&lt;"), (Str.ofString ">", Str.ofString "&gt;"), (Str.ofString "\n", Str.ofString "&#10;"), (Str.ofString "\x0d", Str.ofString "&#13;"), (Str.ofString "\t", Str.ofString "&#9;")]
theorem refs_nd : (refsP.map (·.1)).Nodup := by decide
theorem refs_ne : refsP ≠ [] := by simp [refsP]
theorem refs_len : refsP.length ≤ 15 := by simp [refsP]
theorem c_references (w : World) : ConG w 1 16 165 [] [] (fun _ => True) (OutTexts w refsP) := by
  walk_at "my fill"
  intro mean mg mb dp un gd cn cs a ccd cl outer A₀ base h₀ L m s Q E B F X T hk hd hu hpre hret
  refine wpAny_with_toks (Nat.le_refl _) ?_
  have hbig : sysModules < s.heap.objs.size := Nat.lt_of_lt_of_le (modules_low T.nolimit) (Nat.le_trans F.above (Nat.le_of_lt F.ns.lt))
  walk_at "my enter"
  walk1
  walk1
  walk1
  rename Fr _ _ _ _ => F1
  rename News _ _ _ _ => N1
  refine lit_display F1 N1 refsP rfl refs_ne refs_len refs_nd hbig ?_
  intro d' h' n' k' hk' F' N' hdS' hle
  replace hle := Nat.le_trans (Nat.le_trans F1.above (Nat.le_of_lt F1.ns.lt)) hle
  clear F1 N1
  k_steps
  all_goals walk_at "my end"
  all_goals (try intro ht)
  rename News _ _ _ _ => N6
  have z := N6 _ (.head _)
  exact hret _ _ _ (by assumption) (Fr.keep (by k_asm)) ⟨_, _, _, rfl, z.2.2, z.1, texts_litE _ _, hdS', hle⟩
set_option maxRecDepth 100000
set_option maxHeartbeats 4000000
abbrev dqS : Str := Str.ofString "\""
abbrev sqS : Str := Str.ofString "'"
/-- an object that is a dict of texts with these pairs -/
def DTx (w : World) (o : Obj) (ps : List (Str × Str)) : Prop :=
  ∃ es : List Ent, o.IsDictOf (PySem.strKind PySem.Challenge.rw_il0037_01.row.prog w) (kvsOf es) ∧ textsOf es = ps
theorem DTx.dObj {w : World} (es : List Ent) (n : Nat) {ps : List (Str × Str)} (he : textsOf es = ps) (hn : (ps.map (·.1)).Nodup) : DTx w (dObj w es n) ps :=
  ⟨es, ⟨_, _, ⟨rfl, rfl, rfl⟩, rfl, dEs_keys w es, pairsOf es, by subst he; rw [texts_keys] at hn; simpa [kvsOf, Function.comp_def] using hn⟩, he⟩
/-- what dict.get gives for a sign -/
def lookT (ps : List (Str × Str)) (x : Str) : Str := ((ps.find? fun p => p.1 = x).map (·.2)).getD x
theorem valueAt_texts (es : List Ent) (x : Str) (t : Tok) : ∃ u, (valueAt (kvsOf es) x).getD (.str x t) = .str (lookT (textsOf es) x) u := by
  induction es with
  | nil => exact ⟨t, rfl⟩
  | cons e es ih =>
    obtain ⟨u, hu⟩ := ih
    by_cases h : e.1.1 = x
    · exact ⟨e.2.2, by simp [valueAt, lookT, kvsOf, textsOf, h]⟩
    · refine ⟨u, ?_⟩
      have e1 : valueAt (kvsOf (e :: es)) x = valueAt (kvsOf es) x := by simp [valueAt, kvsOf, h]
      have e2 : lookT (textsOf (e :: es)) x = lookT (textsOf es) x := by simp [lookT, textsOf, h]
      rw [e1, e2, hu]
section
variable {w : World} {A : Around} {E : Value → Shared → Prop} {s : Shared} {h₀ : Heap} {L d a : Addr} {m : Str → Option Value} {news : List (Addr × Obj)} {o oa : Obj} {ps qs : List (Str × Str)} {g : Obj → List (Addr × Obj)}
theorem DTx.of (N : News h₀ L s.heap news) (hp : (d, o) ∈ news) (hT : DTx w o ps) : ∃ es, s.heap.DictOf (PySem.strKind PySem.Challenge.rw_il0037_01.row.prog w) d (kvsOf es) ∧ textsOf es = ps :=
  let ⟨es, hd, he⟩ := hT; ⟨es, kda_dict N hp hd, he⟩
theorem getm_update {pl : Sem Bool} {Q : Value × List Value → Shared → Prop} (N : News h₀ L s.heap news) (hp : (d, o) ∈ news) (hT : DTx w o ps) (h : Q (.builtin "dict.update", [.ref d]) s) : wpAny (model PySem.Challenge.rw_il0037_01.row.prog w) A (getMethod (.ref d) "update" pl) Q E s := by
  obtain ⟨es, hD, _⟩ := hT.of N hp
  exact getMethod_builtin hD.typeIs PySem.F.plainAttrs_dict PySem.F.slot_dict_update PySem.F.type_dict_update hD.mapOf.noDict h
theorem getm_get {pl : Sem Bool} {Q : Value × List Value → Shared → Prop} (N : News h₀ L s.heap news) (hp : (d, o) ∈ news) (hT : DTx w o ps) (h : Q (.builtin "dict.get", [.ref d]) s) : wpAny (model PySem.Challenge.rw_il0037_01.row.prog w) A (getMethod (.ref d) "get" pl) Q E s := by
  obtain ⟨es, hD, _⟩ := hT.of N hp
  exact getMethod_builtin hD.typeIs PySem.F.plainAttrs_dict PySem.F.slot_dict_get PySem.F.type_dict_get hD.mapOf.noDict h
theorem kvsOf_append (x y : List Ent) : kvsOf (x ++ y) = kvsOf x ++ kvsOf y := by simp [kvsOf]
theorem kvsOf_keys (x : List Ent) : (kvsOf x).map (·.1) = (textsOf x).map (·.1) := by simp [kvsOf, textsOf, Function.comp_def]
theorem update_due {Q : Value → Shared → Prop} (F : Fr h₀ L s.heap m) (N : News h₀ L s.heap news) (U : UpdF d o news g) (hD : DTx w o ps) (ha : s.heap.get? a = some oa) (hA : DTx w oa qs) (hda : d ≠ a) (haS : (a == sysModules) = false)
    (hsz : ps.length + qs.length ≤ 64) (hn : ((ps ++ qs).map (·.1)).Nodup) (h : ∀ h' o', DTx w o' (ps ++ qs) → Fr h₀ L h' m → News h₀ L h' (g o') → Q .none { s with heap := h' }) :
    wpAny (model PySem.Challenge.rw_il0037_01.row.prog w) A (call (.builtin "dict.update") [.ref d, .ref a]) Q E s := by
  obtain ⟨pre, post, rfl, hg, h1, h2⟩ := U.split
  have hp : (d, o) ∈ pre ++ (d, o) :: post := List.mem_append_right _ (.head _)
  obtain ⟨es, hdo, he⟩ := hD.of N hp
  obtain ⟨ea, hao, hea⟩ := hA
  have hao' : s.heap.DictOf (PySem.strKind PySem.Challenge.rw_il0037_01.row.prog w) a (kvsOf ea) := Heap.dictOf_iff.mpr ⟨_, ha, hao⟩
  subst he hea
  have hl1 : (kvsOf es).length = (textsOf es).length := by simp [kvsOf, textsOf]
  have hl2 : (kvsOf ea).length = (textsOf ea).length := by simp [kvsOf, textsOf]
  have hm : merged (kvsOf es) (kvsOf ea) = kvsOf (es ++ ea) := by
    rw [merged_append_of_fresh, kvsOf_append]
    rw [← kvsOf_append, kvsOf_keys, texts_append]; exact hn
  refine call_meetsIn PySem.F.slot_dict_update hdo.typeIs PySem.F.entry_dict_update (PySem.F.args_dict_update_2 _ _) (meets_dict_update (PySem.strKind _ w) d a hda haS)
    ⟨kvsOf es, kvsOf ea, hdo, hao', by rw [sizeLine_eq]; omega, fun h' hd' ho' hs' => ?_⟩
  rw [hm] at hd'
  obtain ⟨o', ho, r⟩ := Heap.dictOf_iff.mp hd'
  refine h h' o' ⟨es ++ ea, r, texts_append _ _⟩ (F.change hs' (News.ne N hp) (N.fresh hp)) ?_
  rw [hg]
  exact News.setIn N h1 h2 hs' ho
theorem get_due {Q : Value → Shared → Prop} {x : Str} {t u : Tok} (N : News h₀ L s.heap news) (hp : (d, o) ∈ news) (hT : DTx w o ps) (hds : (d == sysModules) = false)
    (h : ∀ u' tk, Q (.str (lookT ps x) u') { s with toks := tk }) :
    wpAny (model PySem.Challenge.rw_il0037_01.row.prog w) A (call (.builtin "dict.get") [.ref d, .str x t, .str x u]) Q E s := by
  obtain ⟨es, hD, he⟩ := hT.of N hp
  subst he
  obtain ⟨u', hu'⟩ := valueAt_texts es x u
  refine call_meetsIn PySem.F.slot_dict_get hD.typeIs PySem.F.entry_dict_get (PySem.F.args_dict_get_3 _ _ _) (meets_dict_get_default (PySem.strKind _ w) d (strKind_is _ _ _ _) hds _) ⟨_, hD.mapOf, ?_⟩
  rw [hu']
  exact h _ _
end
theorem use_refs {w : World} {mean : ExcName → Option Value} {mg mb : Str → Option Value} {dp un : Nat} {gd : Option (List Code)} {cn : Str} {cs : Scope} {a : Addr} {ccd : Value} {cl : List (Str × Addr)} {outer : List Env} {A₀ : Around} {base h₀ : Heap} {L : Addr} {m : Str → Option Value} {s : Shared} {Q E : Value → Shared → Prop} {news : List (Addr × Obj)}
    (B : Below A₀ base outer h₀) (F : Fr h₀ L s.heap m) (N : News h₀ L s.heap news) (X : (hd.heap_39 w.params).In h₀) (T : TopC mean mg mb h₀) (hk : cs.kind = .function) (hD : dp + 1 < recursionLimit) (hU : un + 16 < cLine)
    (ret : ∀ d o h' tk', s.toks ≤ tk' → Fr h₀ L h' m → News h₀ L h' ((d, o) :: news) → DTx w o refsP → (d == sysModules) = false → (∀ p ∈ news, p.1 < d) → Q (.ref d) { s with heap := h', toks := tk' }) :
    wpAny (model PySem.Challenge.rw_il0037_01.row.prog w) (ktrTop dp un gd cn cs L a ccd cl outer) (call (.ref 165) [] []) Q E s :=
  use_G (c_references w) B F N X T hk hD hU trivial fun v h' tk' ht kp F' N' ⟨d, es, n, e, hf, hg, ht', hs, hle⟩ => by
    subst e
    exact ret d _ h' tk' ht F' (news_add N' F hg hf) (DTx.dObj _ _ ht' refs_nd) hs fun p hp => Nat.lt_of_lt_of_le (Heap.lt_size (N p hp).1) hle
theorem words19 : True := by
  k_with "call ref" => (k_here; (k_dflt (refine' use_refs ?zq19x0kB ?zq19x0kF ?zq19x0kN ?zq19x0kX ?zq19x0kT ?zq19x0kk ?zq19x0kD ?zq19x0kU ?_)); (case zq19x0kB => k_asm); (case zq19x0kF => k_asm); (case zq19x0kN => k_asm); (case zq19x0kX => k_asm); (case zq19x0kT => k_asm); (case zq19x0kk => first | exact rfl | assumption); (case zq19x0kD => ktr_room); (case zq19x0kU => ktr_units); intro d9 o9 h9 tk9 ht9 F9 N9 ho9 hs9 l9; (try k_lt l9); (try dsimp only); (try k_sweep))
  k_with "getMethod ref" => (k_here; (with_reducible show wpAny _ _ (getMethod (Value.ref _) _ _) _ _ _); k_dflt (first
    | (refine' getm_update ?zq19x1N ?zq19x1p ?zq19x1T ?_; (case zq19x1N => k_asm); (case zq19x1p => k_mem); (case zq19x1T => assumption))
    | (refine' getm_get ?zq19x1N ?zq19x1p ?zq19x1T ?_; (case zq19x1N => k_asm); (case zq19x1p => k_mem); (case zq19x1T => assumption))))
  k_with "call builtin:dict.get" => (k_here; k_dflt (refine' get_due ?zq19x2N ?zq19x2p ?zq19x2T ?zq19x2d ?_; (case zq19x2N => k_asm); (case zq19x2p => k_mem); (case zq19x2T => assumption); (case zq19x2d => assumption)); intro _ _)
  trivial
theorem fresh_ne {h₀ h : Heap} {L d a : Addr} {o oa : Obj} {news : List (Addr × Obj)} (N : News h₀ L h news) (hp : (d, o) ∈ news) (ha : h₀.get? a = some oa) : d ≠ a := by
  rintro rfl
  have := N.fresh hp
  rw [ha] at this; cases this
theorem DTx.gen {w : World} {o : Obj} {ps : List (Str × Str)} (h : DTx w o ps) : ∃ PS, PS = ps ∧ DTx w o PS := ⟨_, rfl, h⟩
theorem lookT_len {ps : List (Str × Str)} {x : Str} (h : ∀ p ∈ ps, p.2.length ≤ 16) (hx : x.length ≤ 16) : (lookT ps x).length ≤ 16 := by
  unfold lookT
  cases hf : ps.find? fun p => p.1 = x with
  | none => simpa using hx
  | some p => simpa using h p (List.mem_of_find?_eq_some hf)
theorem sum_len_le {xs : List Str} {k : Nat} (h : ∀ x ∈ xs, x.length ≤ k) : (xs.map (·.length)).sum ≤ k * xs.length := by
  induction xs with
  | nil => simp
  | cons x xs ih =>
    have h1 := h x List.mem_cons_self
    have h2 := ih fun y hy => h y (List.mem_cons_of_mem _ hy)
    rw [List.map_cons, List.sum_cons, List.length_cons, Nat.mul_succ]; omega
theorem join_len_le {xs : List Str} {k n : Nat} (h : ∀ x ∈ xs, x.length ≤ k) (hn : xs.length ≤ n) : (Txt.join (Str.ofString "") xs).length ≤ k * n := by
  have h1 := StrLaws.join_length_le (Str.ofString "") xs
  have h2 := sum_len_le h
  have h3 : (Str.ofString "").length = 0 := by decide
  have h4 : k * xs.length ≤ k * n := Nat.mul_le_mul_left _ hn
  rw [h3, Nat.mul_zero] at h1
  have h5 : Txt.join (Str.ofString "") xs = Str.join (Str.ofString "") xs := StrLaws.glued_eq_join _ _
  rw [h5]; omega
theorem words20 : True := by
  k_with "CompSrc" => (k_here; (k_dflt (first
    | refine' LCg.CompSrc.base (by rfl) (by k_asm) (by k_asm) (by assumption) ?zq20x0z ?_
    | refine' LCg.CompSrc.ledger (by rfl) (by k_asm) (by k_asm) (by k_mem) ?zq20x0z ?_)); (case zq20x0z => (rw [sizeLine_eq]; (try simp only [List.size_toArray]); omega)); intro g')
  k_with "call builtin:str.join" => (k_here; dsimp only [List.cons_append, List.nil_append]; k_dflt (refine' join_listW ?zq20x1l ?zq20x1i ?zq20x1s ?zq20x1w ?_; (case zq20x1l => exact News.isList (by k_asm) (by k_mem)); (case zq20x1i => assumption); (case zq20x1s => decide); (case zq20x1w => omega)); intro _ _)
  trivial
def quotP : List (Str × Str) := [(dqS, Str.ofString "&quot;")]
theorem lit_quot {w : World} {A : Around} {E : Value → Shared → Prop} {s : Shared} {env : Env} {pos : Pos} {h₀ : Heap} {L : Addr} {mm : Str → Option Value} {news : List (Addr × Obj)} {keys : List (Option Expr)} {values : List Expr} {Q : Value → Shared → Prop} (F : Fr h₀ L s.heap mm) (N : News h₀ L s.heap news)
    (hz : (evalEachOpt keys env).zip ((evalEach values env).map fun v => do let x ← v; standAt pos; pure x) = (litP env pos quotP).map fun p => (some p.1, p.2)) (hbig : sysModules < h₀.objs.size)
    (h : ∀ d o h' k, s.toks ≤ k → Fr h₀ L h' mm → News h₀ L h' ((d, o) :: news) → DTx w o quotP → (d == sysModules) = false → (∀ p ∈ news, p.1 < d) → Q (.ref d) { s with heap := h', toks := k }) :
    wpAny (model PySem.Challenge.rw_il0037_01.row.prog w) A (eval (.Dict keys values pos) env) Q E s :=
  lit_display F N quotP hz (by simp [quotP]) (by decide) (by decide) hbig fun d h' n k hk F' N' hs hle =>
    h d _ h' k (by omega) F' N' (DTx.dObj _ _ (texts_litE _ _) (by decide)) hs fun p hp => Nat.lt_of_lt_of_le (Heap.lt_size (N p hp).1) hle
local macro_rules | `(tactic| walk_at "call builtin:dict.update") => `(tactic| (k_here; dsimp only [List.cons_append, List.nil_append]; k_dflt (first
  | (refine' update_due ?F ?N ?U ?D (Fr.keep (by k_asm) _ _ (by assumption)) ?A ?n ?S ?z ?d ?_; (case F => k_asm); (case N => k_asm); (case U => k_updF); (case D => assumption); (case A => assumption); (case n => exact fresh_ne (by k_asm) (by k_mem) (by assumption)); (case S => assumption); (case z => assumption); (case d => assumption))
  | (refine' update_due ?F ?N ?U ?D (News.get (by k_asm) (by k_mem)) ?A ?n ?S ?z ?d ?_; (case F => k_asm); (case N => k_asm); (case U => k_updF); (case D => assumption); (case A => assumption); (case n => k_ne); (case S => assumption); (case z => assumption); (case d => assumption))); intro h7 o7 hD7 F7 N7; (try dsimp only at N7); (try k_sweep)))
theorem words21 : True := by
  k_with "eval Dict" => (k_here; (k_dflt (refine' lit_quot ?zq21x0F ?zq21x0N ?zq21x0z ?zq21x0b ?_; (case zq21x0F => k_asm); (case zq21x0N => k_asm); (case zq21x0z => with_unfolding_all rfl); (case zq21x0b => assumption))); intro d8 o8 h8 tk8 ht8 F8 N8 ho8 hs8 l8; (try k_lt l8); (try dsimp only); (try k_sweep))
  trivial
theorem refs_short : ∀ p ∈ refsP, p.2.length ≤ 16 := by decide
/-- the text that the law asks for -/
def quotedS (ws : List Str) (qs : List (Str × Str)) : Str :=
  if (ws.any (· == dqS)) = true then
    if (ws.any (· == sqS)) = true then dqS ++ Txt.join (Str.ofString "") (ws.map (lookT (refsP ++ qs ++ quotP))) ++ dqS
    else sqS ++ Txt.join (Str.ofString "") (ws.map (lookT (refsP ++ qs))) ++ sqS
  else dqS ++ Txt.join (Str.ofString "") (ws.map (lookT (refsP ++ qs))) ++ dqS
theorem quoted_a {ws : List Str} {qs : List (Str × Str)} (h1 : (ws.any (· == dqS)) = true) (h2 : (ws.any (· == sqS)) = true) : dqS ++ Txt.join (Str.ofString "") (ws.map (lookT (refsP ++ qs ++ quotP))) ++ dqS = quotedS ws qs := by
  unfold quotedS; rw [if_pos h1, if_pos h2]
theorem quoted_b {ws : List Str} {qs : List (Str × Str)} (h1 : (ws.any (· == dqS)) = true) (h2 : (ws.any (· == sqS)) = false) : sqS ++ Txt.join (Str.ofString "") (ws.map (lookT (refsP ++ qs))) ++ sqS = quotedS ws qs := by
  unfold quotedS; rw [if_pos h1, if_neg (by rw [h2]; exact Bool.false_ne_true)]
theorem quoted_c {ws : List Str} {qs : List (Str × Str)} (h1 : (ws.any (· == dqS)) = false) : dqS ++ Txt.join (Str.ofString "") (ws.map (lookT (refsP ++ qs))) ++ dqS = quotedS ws qs := by
  unfold quotedS; rw [if_neg (by rw [h1]; exact Bool.false_ne_true)]
theorem c_quoted (w : World) (l : Addr) (vs : List Value) (ws : List Str) (hi : StrsAre vs ws) (hlen : ws.length ≤ 16) (d : Addr) (es : List Ent) (n : Nat) (hdS : (d == sysModules) = false) (hel : es.length ≤ 2)
    (hwl : ∀ x ∈ ws, x.length ≤ 16) (hpl : ∀ p ∈ textsOf es, p.2.length ≤ 16)
    (hn : ((refsP ++ textsOf es ++ quotP).map (·.1)).Nodup) :
    ConV w 2 32 170 [.ref l, .ref d] [] (fun s => s.heap.IsList l vs.toArray ∧ s.heap.get? d = some (dObj w es n)) (fun t => .str (quotedS ws (textsOf es)) t) := by
  have hn1 : ((textsOf es).map (·.1)).Nodup := by
    rw [List.map_append, List.map_append, List.nodup_append, List.nodup_append] at hn; exact hn.1.2.1
  have hn2 : ((refsP ++ textsOf es).map (·.1)).Nodup := by
    rw [List.map_append, List.nodup_append] at hn; exact hn.1
  have hT : DTx w (dObj w es n) (textsOf es) := DTx.dObj es n rfl hn1
  walk_at "my fill"
  intro mean mg mb dp un gd cn cs a ccd cl outer A₀ base h₀ L m s Q E B F X T hk hd hu hpre hret
  obtain ⟨hls, hpd⟩ := hpre
  refine wpAny_with_toks (Nat.le_refl _) ?_
  have hvl : vs.length = ws.length := hi.length
  have hz1 : refsP.length + (textsOf es).length ≤ 64 := by simp [refsP, textsOf]; omega
  have hz2 : (refsP ++ textsOf es).length + quotP.length ≤ 64 := by simp [refsP, textsOf, quotP]; omega
  have hbig : sysModules < s.heap.objs.size := Nat.lt_of_lt_of_le (modules_low T.nolimit) (Nat.le_trans F.above (Nat.le_of_lt F.ns.lt))
  walk_at "my enter"
  k_steps
  all_goals rename DTx w _ _ => hDD
  all_goals obtain ⟨PS, hPS, hDE⟩ := hDD.gen
  all_goals
    have hPL : ∀ p ∈ PS, p.2.length ≤ 16 := by
      subst hPS
      intro p hp
      simp only [List.mem_append] at hp
      first
      | exact hp.elim (fun hp => hp.elim (fun hp => refs_short p hp) (hpl p)) (fun hp => by rw [List.mem_singleton.mp hp]; decide)
      | exact hp.elim (fun hp => refs_short p hp) (hpl p)
  all_goals clear hDD
  all_goals refine comp_rest (fun i v => ∃ f t, ws[i]? = some f ∧ v = .str (lookT PS f) t) ?_ ?_
  any_goals
    intro i v I oI C oC D m₂ ys h tk E' hii hv' hC hx F3 N3 off ne
    obtain ⟨f, t, rfl, hf⟩ := StrsAre.item hi i v (by simpa using hv')
    simp only [LCg.Off3, and_true] at off
    k_steps
    exact ⟨rfl, f, _, hf, rfl⟩
  all_goals intro ys hl hy D h tk F3 N3 o3
  all_goals
    have hs : StrsAre ys (ws.map (lookT PS)) := by
      have e : ws.map (lookT PS) = (List.range ws.length).map fun i => lookT PS (ws.getD i Str.empty) := by
        apply List.ext_getElem?
        intro i
        simp only [List.getElem?_map]
        rcases Nat.lt_or_ge i ws.length with h | h
        · simp [h]
        · simp [h]
      rw [e]
      refine strs_of (by rw [hl]; simpa using hi.length) fun i y hiy => ?_
      obtain ⟨f, t, hf, rfl⟩ := hy i y hiy
      exact ⟨t, by simp [hf]⟩
  all_goals
    have hml : ∀ x ∈ ws.map (lookT PS), x.length ≤ 16 := by
      intro x hx
      obtain ⟨y, hy, rfl⟩ := List.mem_map.mp hx
      exact lookT_len hPL (hwl y hy)
  all_goals have hmn : (ws.map (lookT PS)).length ≤ 16 := by rw [List.length_map]; exact hlen
  all_goals have hjl := join_len_le hml hmn
  all_goals have hms := sum_len_le hml
  all_goals k_steps
  all_goals walk_at "my end"
  all_goals (try intro ht)
  all_goals subst hPS
  all_goals refine ret_str hret ?_ (by assumption) (Fr.keep (by k_asm))
  · exact quoted_a (by assumption) (by assumption)
  · exact quoted_b (by assumption) (by assumption)
  · exact quoted_c (by assumption)
end SD
section SP
section XP1
open PySem.Builtin PySem.Builtin.Str PySem.StrLaws
/-- a scan from the left: p is written as z -/
def replS (p z : List Nat) : Nat → List Nat → List Nat
  | _, [] => []
  | k + 1, _ :: r => replS p z k r
  | 0, a :: r => if p.isPrefixOf (a :: r) = true then z ++ replS p z (p.length - 1) r else a :: replS p z 0 r
/-- the places where p begins -/
def occL (p : List Nat) : Nat → Nat → List Nat → List Nat
  | _, _, [] => []
  | k + 1, i, _ :: r => occL p k (i + 1) r
  | 0, i, a :: r => if p.isPrefixOf (a :: r) = true then i :: occL p (p.length - 1) (i + 1) r else occL p 0 (i + 1) r
theorem replS_skip (p z : List Nat) : ∀ (k : Nat) (l : List Nat), replS p z k l = replS p z 0 (l.drop k)
  | 0, l => rfl
  | k + 1, [] => by simp [replS]
  | k + 1, a :: r => by rw [replS, replS_skip p z k r, List.drop_succ_cons]
theorem occL_skip (p : List Nat) : ∀ (k i : Nat) (l : List Nat), k ≤ l.length → occL p k i l = occL p 0 (i + k) (l.drop k)
  | 0, i, l, _ => rfl
  | k + 1, i, [], h => by simp at h
  | k + 1, i, a :: r, h => by rw [occL, occL_skip p k (i + 1) r (by simpa using h), List.drop_succ_cons, show i + 1 + k = i + (k + 1) by omega]
theorem occL_nil (p : List Nat) (k i : Nat) : occL p k i [] = [] := by cases k <;> rfl

theorem at_iff (x y : Str) (hy0 : 0 < y.length) (i : Nat) : (i + y.length ≤ x.length ∧ subAt x y i = true) ↔ y.cps.toList.isPrefixOf (x.cps.toList.drop i) = true := by
  have hx : x.cps.toList.length = x.length := by simp [Str.length]
  have hy : y.cps.toList.length = y.length := by simp [Str.length]
  rw [subAt_eq, beq_iff_eq, List.isPrefixOf_iff_prefix, List.prefix_iff_eq_take, hy]
  constructor
  · rintro ⟨_, h⟩; exact h.symm
  · intro h
    refine ⟨?_, h.symm⟩
    have := congrArg List.length h
    rw [List.length_take, List.length_drop, hx, hy] at this
    omega

theorem occ_run (x y : Str) (hy : 0 < y.length) : ∀ (j i : Nat) (found : Array Nat) (free : Nat), i + j = x.length + 1 → found.size ≤ i →
    (forIn (List.range' i j) (found, free) (occBody x y x.length (x.length + 1))).run.fst.toList = found.toList ++ occL y.cps.toList (free - i) i (x.cps.toList.drop i)
  | 0, i, found, free, h, hs => by
    have hx : x.cps.toList.length = x.length := by simp [Str.length]
    rw [List.drop_eq_nil_of_le (by omega), occL_nil]
    simp
  | j + 1, i, found, free, h, hs => by
    have hx : x.cps.toList.length = x.length := by simp [Str.length]
    have hyl : y.cps.toList.length = y.length := by simp [Str.length]
    rw [List.range'_succ, List.forIn_cons]
    have key : occBody x y x.length (x.length + 1) i (found, free) = if (free ≤ i ∧ y.cps.toList.isPrefixOf (x.cps.toList.drop i) = true) then pure (ForInStep.yield (found.push i, i + y.length)) else pure (ForInStep.yield (found, free)) := by
      unfold occBody
      have e : (((found, free).fst.size < x.length + 1 ∧ (found, free).snd ≤ i) ∧ i + y.length ≤ x.length) ∧ subAt x y i = true ↔ (free ≤ i ∧ y.cps.toList.isPrefixOf (x.cps.toList.drop i) = true) := by
        rw [← at_iff x y hy]
        constructor
        · rintro ⟨⟨⟨_, a⟩, b⟩, c⟩; exact ⟨a, b, c⟩
        · rintro ⟨a, b, c⟩; exact ⟨⟨⟨by show found.size < _; omega, a⟩, b⟩, c⟩
      by_cases hc : (free ≤ i ∧ y.cps.toList.isPrefixOf (x.cps.toList.drop i) = true)
      · rw [if_pos (e.mpr hc), if_pos hc]
      · rw [if_neg (fun q => hc (e.mp q)), if_neg hc]
    rw [key]
    by_cases hi : i < x.length
    · obtain ⟨a, r, hr⟩ : ∃ a r, x.cps.toList.drop i = a :: r := by
        cases hd : x.cps.toList.drop i with
        | nil => have := congrArg List.length hd; rw [List.length_drop, hx] at this; simp at this; omega
        | cons a r => exact ⟨a, r, rfl⟩
      have hr' : x.cps.toList.drop (i + 1) = r := by rw [← List.drop_drop, hr]; rfl
      by_cases hf : free ≤ i
      · by_cases hm : y.cps.toList.isPrefixOf (a :: r) = true
        · rw [if_pos ⟨hf, by rw [hr]; exact hm⟩]
          show (forIn (List.range' (i + 1) j) (found.push i, i + y.length) (occBody x y x.length (x.length + 1))).run.fst.toList = _
          rw [occ_run x y hy j (i + 1) (found.push i) (i + y.length) (by omega) (by rw [Array.size_push]; omega), hr, hr', show free - i = 0 by omega, occL, if_pos hm, hyl, show i + y.length - (i + 1) = y.length - 1 by omega]
          simp
        · rw [if_neg (by rw [hr]; exact fun q => hm q.2)]
          show (forIn (List.range' (i + 1) j) (found, free) (occBody x y x.length (x.length + 1))).run.fst.toList = _
          rw [occ_run x y hy j (i + 1) found free (by omega) (by omega), hr, hr', show free - i = 0 by omega, show free - (i + 1) = 0 by omega]
          conv => rhs; rw [occL]
          rw [if_neg hm]
      · rw [if_neg (fun q => hf q.1)]
        show (forIn (List.range' (i + 1) j) (found, free) (occBody x y x.length (x.length + 1))).run.fst.toList = _
        rw [occ_run x y hy j (i + 1) found free (by omega) (by omega), hr, hr']
        obtain ⟨k, hk⟩ : ∃ k, free - i = k + 1 := ⟨free - i - 1, by omega⟩
        rw [hk, show free - (i + 1) = k by omega, occL]
    · have hn : x.cps.toList.drop i = [] := List.drop_eq_nil_of_le (by omega)
      have hn' : x.cps.toList.drop (i + 1) = [] := List.drop_eq_nil_of_le (by omega)
      have hm : ¬ (free ≤ i ∧ y.cps.toList.isPrefixOf (x.cps.toList.drop i) = true) := by
        rw [hn]
        intro q
        have := (List.isPrefixOf_iff_prefix.mp q.2).length_le
        rw [hyl] at this; simp at this; omega
      rw [if_neg hm]
      show (forIn (List.range' (i + 1) j) (found, free) (occBody x y x.length (x.length + 1))).run.fst.toList = _
      rw [occ_run x y hy j (i + 1) found free (by omega) (by omega), hn, hn', occL_nil, occL_nil]

theorem occ_list (x y : Str) (hy : 0 < y.length) : occurrences x y 0 x.length (x.length + 1) = occL y.cps.toList 0 0 x.cps.toList := by
  rw [occ_eq, occ_run x y hy (x.length + 1 - 0) 0 #[] 0 (by omega) (by simp)]
  simp

theorem join_cons2 (z p : Str) {l : List Str} (h : l ≠ []) : (Str.join z (p :: l)).cps.toList = p.cps.toList ++ z.cps.toList ++ (Str.join z l).cps.toList := by
  cases l with
  | nil => exact absurd rfl h
  | cons q r =>
    show (p ++ z ++ Str.join z (q :: r)).cps.toList = _
    rw [Str.cps_append, Str.cps_append, Array.toList_append, Array.toList_append]

theorem parts_join (x z : Str) (p : List Nat) (hp : 0 < p.length) : ∀ (j i a : Nat), i + j = x.length → a ≤ i →
    (Str.join z (partsFrom x p.length a (occL p 0 i (x.cps.toList.drop i)))).cps.toList = (x.cps.toList.drop a).take (i - a) ++ replS p z.cps.toList 0 (x.cps.toList.drop i) := by
  have hx : x.cps.toList.length = x.length := by simp [Str.length]
  intro j
  induction j using Nat.strongRecOn with
  | ind j ih =>
    intro i a h ha
    cases hd : x.cps.toList.drop i with
    | nil =>
      have : j = 0 := by have := congrArg List.length hd; rw [List.length_drop, hx] at this; simp at this; omega
      rw [occL_nil]
      show (strSub x a x.length).cps.toList = _
      rw [strSub_toList]
      have e : i = x.length := by omega
      subst e
      simp [replS]
    | cons c r =>
      have hi : i < x.length := by have := congrArg List.length hd; rw [List.length_drop, hx] at this; simp at this; omega
      have hr : x.cps.toList.drop (i + 1) = r := by rw [← List.drop_drop, hd]; rfl
      by_cases hm : p.isPrefixOf (c :: r) = true
      · have hl := (List.isPrefixOf_iff_prefix.mp hm).length_le
        rw [List.length_cons] at hl
        have hrl : r.length = x.length - (i + 1) := by rw [← hr, List.length_drop, hx]
        rw [occL, if_pos hm, replS, if_pos hm, occL_skip p _ _ r (by omega), replS_skip]
        have e1 : r.drop (p.length - 1) = x.cps.toList.drop (i + p.length) := by rw [← hr, List.drop_drop]; congr 1; omega
        rw [e1, show i + 1 + (p.length - 1) = i + p.length by omega]
        have := ih (j - p.length) (by omega) (i + p.length) (i + p.length) (by omega) (Nat.le_refl _)
        rw [Nat.sub_self, List.take_zero, List.nil_append] at this
        show (Str.join z (strSub x a i :: partsFrom x p.length (i + p.length) _)).cps.toList = _
        obtain ⟨q, l, hq⟩ := partsFrom_ne x p.length (i + p.length) (occL p 0 (i + p.length) (x.cps.toList.drop (i + p.length)))
        rw [join_cons2 z _ (by rw [hq]; simp), this, strSub_toList, List.append_assoc]
      · rw [occL, if_neg hm, replS, if_neg hm, ← hr, ih (j - 1) (by omega) (i + 1) a (by omega) (by omega)]
        have e : (x.cps.toList.drop a).take (i + 1 - a) = (x.cps.toList.drop a).take (i - a) ++ [c] := by
          rw [show i + 1 - a = (i - a) + 1 by omega, List.take_add_one]
          congr 1
          have : (x.cps.toList.drop a)[i - a]? = some c := by
            rw [List.getElem?_drop, show a + (i - a) = i + 0 by omega, ← List.getElem?_drop, hd]; rfl
          rw [this]; rfl
        rw [e, List.append_assoc]
        rfl

theorem replace_list (x y z : Str) (hy : 0 < y.length) : (Txt.replace x y z).cps.toList = replS y.cps.toList z.cps.toList 0 x.cps.toList := by
  have hyl : y.cps.toList.length = y.length := by simp [Str.length]
  have hx : x.cps.toList.length = x.length := by simp [Str.length]
  have h := parts_join x z y.cps.toList (by omega) x.length 0 0 (by omega) (Nat.le_refl _)
  rw [List.drop_zero, Nat.sub_self, List.take_zero, List.nil_append, hyl] at h
  unfold Txt.replace
  split
  · rename_i hc
    have hc' : (occurrences x y 0 x.length (x.length + 1)).isEmpty = true := by
      rcases Bool.or_eq_true _ _ |>.mp hc with h' | h'
      · exact h'
      · simp at h'; omega
    rw [List.isEmpty_iff, occ_list x y hy] at hc'
    rw [hc'] at h
    rw [← h]
    show x.cps.toList = (strSub x 0 x.length).cps.toList
    rw [sub_whole]
  · rw [glued_eq_join, partsBetween_eq, occ_list x y hy, h]

/-- one sign -/
theorem replS_one (c : Nat) (z : List Nat) : ∀ l : List Nat, replS [c] z 0 l = l.flatMap fun a => if a = c then z else [a]
  | [] => rfl
  | a :: r => by
    have e : [c].isPrefixOf (a :: r) = (c == a) := by simp [List.isPrefixOf]
    rw [replS, e, List.flatMap_cons]
    show (if (c == a) = true then z ++ replS [c] z 0 r else a :: replS [c] z 0 r) = _
    rw [replS_one c z r]
    by_cases h : a = c
    · subst h; simp
    · have : ¬ (c == a) = true := by simpa using fun q => h q.symm
      rw [if_neg this, if_neg h]; rfl
theorem replace_one (x z : Str) (c : Nat) : (Txt.replace x ⟨#[c]⟩ z).cps.toList = x.cps.toList.flatMap fun a => if a = c then z.cps.toList else [a] := by
  rw [replace_list x _ z (by show 0 < 1; decide)]
  exact replS_one c _ _

/-- an entity: & and ; with neither between -/
def Ent1 (q : List Nat) : Prop := ∃ b : List Nat, q = 38 :: (b ++ [59]) ∧ 38 ∉ b ∧ 59 ∉ b
def PieceOk (q : List Nat) : Prop := 38 ∉ q ∨ Ent1 q
theorem replS_free (p z : List Nat) (hp : ∃ r, p = 38 :: r) : ∀ (q r : List Nat), 38 ∉ q → replS p z 0 (q ++ r) = q ++ replS p z 0 r
  | [], r, _ => rfl
  | a :: q, r, h => by
    obtain ⟨pr, rfl⟩ := hp
    have ha : a ≠ 38 := fun e => h (e ▸ List.mem_cons_self)
    have hm : ¬ (38 :: pr).isPrefixOf (a :: (q ++ r)) = true := by simp [List.isPrefixOf, ha.symm]
    rw [List.cons_append, replS, if_neg hm, replS_free _ z ⟨pr, rfl⟩ q r fun q => h (List.mem_cons_of_mem _ q)]
    rfl
theorem ent_prefix {b0 b r : List Nat} (h0 : 59 ∉ b0) (h : 59 ∉ b) (hp : b0 ++ [59] <+: b ++ [59] ++ r) : b0 = b := by
  induction b0 generalizing b with
  | nil =>
    cases b with
    | nil => rfl
    | cons a b => simp at hp; exact absurd (hp ▸ List.mem_cons_self) h
  | cons a b0 ih =>
    cases b with
    | nil => simp at hp; exact absurd (hp.1 ▸ List.mem_cons_self) h0
    | cons c b =>
      simp only [List.cons_append, List.cons_prefix_cons] at hp
      rw [hp.1, ih (fun q => h0 (List.mem_cons_of_mem _ q)) (fun q => h (List.mem_cons_of_mem _ q)) (by simpa using hp.2)]
theorem replS_pieces {p z : List Nat} (hp : Ent1 p) : ∀ qs : List (List Nat), (∀ q ∈ qs, PieceOk q) → replS p z 0 qs.flatten = (qs.map fun q => if q = p then z else q).flatten
  | [], _ => rfl
  | q :: qs, h => by
    have ih := replS_pieces (z := z) hp qs fun q hq => h q (List.mem_cons_of_mem _ hq)
    obtain ⟨b0, hb0, h38, h59⟩ := hp
    rw [List.flatten_cons, List.map_cons, List.flatten_cons]
    rcases h q List.mem_cons_self with hq | ⟨b, hb, g38, g59⟩
    · rw [replS_free p z ⟨_, hb0⟩ q _ hq, ih, if_neg]
      rintro rfl; exact hq (hb0 ▸ List.mem_cons_self)
    · by_cases e : q = p
      · rw [if_pos e, e]
        obtain ⟨a, r, hr⟩ : ∃ a r, p = a :: r := ⟨_, _, hb0⟩
        have hm : p.isPrefixOf (a :: (r ++ qs.flatten)) = true := by
          rw [List.isPrefixOf_iff_prefix]
          have : a :: (r ++ qs.flatten) = p ++ qs.flatten := by rw [hr]; rfl
          rw [this]; exact List.prefix_append _ _
        have e1 : p ++ qs.flatten = a :: (r ++ qs.flatten) := by rw [hr]; rfl
        rw [e1, replS, if_pos hm, replS_skip]
        have e2 : (r ++ qs.flatten).drop (p.length - 1) = qs.flatten := by
          rw [show p.length - 1 = r.length by rw [hr]; rfl]; simp
        rw [e2, ih]
      · rw [if_neg e]
        have hne : b0 ≠ b := by rintro rfl; exact e (hb.trans hb0.symm)
        have e1 : q ++ qs.flatten = 38 :: ((b ++ [59]) ++ qs.flatten) := by rw [hb]; rfl
        have hm : ¬ p.isPrefixOf (38 :: ((b ++ [59]) ++ qs.flatten)) = true := by
          rw [List.isPrefixOf_iff_prefix, hb0]
          intro q'
          rw [List.cons_prefix_cons] at q'
          exact hne (ent_prefix h59 g59 q'.2)
        rw [e1, replS, if_neg hm, replS_free p z ⟨_, hb0⟩ (b ++ [59]) _ (by simp [g38]), ih, hb]
        rfl
end XP1
set_option maxRecDepth 100000
abbrev sgl (c : Nat) : Str := ⟨#[c]⟩
abbrev NL := List (Nat × List Nat)
def toP (L : NL) : List (Str × Str) := L.map fun q => (sgl q.1, ⟨q.2.toArray⟩)
def sub1 (q : Nat × List Nat) (a : Nat) : List Nat := if a = q.1 then q.2 else [a]
def chainC (L : NL) (c : Nat) : List Nat := L.foldl (fun l q => l.flatMap (sub1 q)) [c]
def lookL (L : NL) (c : Nat) : List Nat := ((L.find? fun q => q.1 = c).map (·.2)).getD [c]
theorem str_ext {a b : Str} (h : a.cps.toList = b.cps.toList) : a = b := Str.ext' (Array.toList_inj.mp h)
theorem chain_flat (L : NL) : ∀ l : List Nat, L.foldl (fun l q => l.flatMap (sub1 q)) l = l.flatMap (chainC L) := by
  induction L with
  | nil => intro l; show l = l.flatMap (fun c => [c]); simp
  | cons q L ih =>
    intro l
    rw [List.foldl_cons, ih, List.flatMap_assoc]
    congr 1
    funext c
    rw [chainC, List.foldl_cons, ih]
    simp
theorem replP_chain (L : NL) : ∀ l : List Nat, replP ⟨l.toArray⟩ (toP L) = ⟨(l.flatMap (chainC L)).toArray⟩ := by
  intro l
  rw [← chain_flat]
  induction L generalizing l with
  | nil => rfl
  | cons q L ih =>
    show replP (Txt.replace ⟨l.toArray⟩ (sgl q.1) ⟨q.2.toArray⟩) (toP L) = _
    rw [List.foldl_cons, ← ih]
    congr 1
    refine str_ext ?_
    rw [replace_one]
    rfl
theorem lookT_L (L : NL) (c : Nat) : lookT (toP L) (sgl c) = ⟨(lookL L c).toArray⟩ := by
  induction L with
  | nil => rfl
  | cons q L ih =>
    by_cases h : q.1 = c
    · simp [lookT, lookL, toP, h]
    · have h' : sgl q.1 ≠ sgl c := fun e => h (by simpa [sgl] using e)
      have e1 : lookT (toP (q :: L)) (sgl c) = lookT (toP L) (sgl c) := by
        have e0 : toP (q :: L) = (sgl q.1, ⟨q.2.toArray⟩) :: toP L := rfl
        rw [e0]; unfold lookT; rw [List.find?_cons_of_neg (by simpa using h)]
      have e2 : lookL (q :: L) c = lookL L c := by
        unfold lookL; rw [List.find?_cons_of_neg (by simpa using h)]
      rw [e1, e2, ih]
theorem toP_append (a b : NL) : toP (a ++ b) = toP a ++ toP b := by simp [toP]
theorem replP_append (x : Str) (a b : List (Str × Str)) : replP x (a ++ b) = replP (replP x a) b := by simp [replP]
theorem replP_take (x : Str) (a b : List (Str × Str)) (i : Nat) : replP (replP x a) (b.take i) = replP x (a ++ b.take i) := (replP_append x a _).symm

def escL : NL := [(38, [38, 97, 109, 112, 59]), (62, [38, 103, 116, 59]), (60, [38, 108, 116, 59])]
def furL : NL := [(65, [38, 35, 54, 53, 59]), (61, [38, 35, 54, 49, 59])]
def qcL : NL := [(10, [38, 35, 49, 48, 59]), (13, [38, 35, 49, 51, 59]), (9, [38, 35, 57, 59])]
def refL : NL := [(38, [38, 97, 109, 112, 59]), (60, [38, 108, 116, 59]), (62, [38, 103, 116, 59]), (10, [38, 35, 49, 48, 59]), (13, [38, 35, 49, 51, 59]), (9, [38, 35, 57, 59])]
def quoL : NL := [(34, [38, 113, 117, 111, 116, 59])]
def furP : List (Str × Str) := [(Str.ofString "A", Str.ofString "&#65;"), (Str.ofString "=", Str.ofString "&#61;")]
def backP : List (Str × Str) := [(Str.ofString "&quot;", Str.ofString "\""), (Str.ofString "&#10;", Str.ofString "\n"), (Str.ofString "&#13;", Str.ofString "\x0d"), (Str.ofString "&#9;", Str.ofString "\t"), (Str.ofString "&#65;", Str.ofString "A"), (Str.ofString "&#61;", Str.ofString "=")]
def escP : List (Str × Str) := [(Str.ofString "&", Str.ofString "&amp;"), (Str.ofString ">", Str.ofString "&gt;"), (Str.ofString "<", Str.ofString "&lt;")]
theorem escP_L : toP escL = escP := by decide +kernel
theorem furP_L : toP furL = furP := by decide +kernel
theorem qcs_L : toP qcL = qcs := by decide +kernel
theorem refs_L : toP refL = refsP := by decide +kernel
theorem quot_L : toP quoL = quotP := by decide +kernel
theorem esc3_P (W : Str) : esc3 W = replP W escP := rfl
theorem esc2_P (W : Str) : esc2 W = replP W (escP.take 2) := rfl
theorem esc1_P (W : Str) : esc1 W = replP W (escP.take 1) := rfl
theorem toP_take (L : NL) (i : Nat) : toP (L.take i) = (toP L).take i := by simp [toP, List.map_take]

theorem flat_len {cs : List Nat} {f : Nat → List Nat} {k : Nat} (h : ∀ c ∈ cs, (f c).length ≤ k) : (cs.flatMap f).length ≤ k * cs.length := by
  induction cs with
  | nil => simp
  | cons c cs ih =>
    have h1 := h c List.mem_cons_self
    have h2 := ih fun d hd => h d (List.mem_cons_of_mem _ hd)
    rw [List.flatMap_cons, List.length_append, List.length_cons, Nat.mul_succ]; omega
theorem rep_len (L : NL) {cs : List Nat} (hL : ∀ c < 128, (chainC L c).length ≤ 6) (hcs : ∀ c ∈ cs, c < 128) (hcl : cs.length ≤ 16) : (replP ⟨cs.toArray⟩ (toP L)).length ≤ 96 := by
  rw [replP_chain]
  have := flat_len (f := chainC L) (k := 6) fun c hc => hL c (hcs c hc)
  show (cs.flatMap (chainC L)).toArray.size ≤ 96
  rw [List.size_toArray]; omega
theorem chain_len1 : ∀ i < 4, ∀ c < 128, (chainC (escL.take i) c).length ≤ 6 := by decide +kernel
theorem chain_len2 : ∀ i < 6, ∀ c < 128, (chainC (escL ++ (furL ++ qcL).take i) c).length ≤ 6 := by decide +kernel
theorem chain_len3 : ∀ i < 4, ∀ c < 128, (chainC (escL ++ qcL.take i) c).length ≤ 6 := by decide +kernel
theorem chain_len4 : ∀ c < 128, (chainC (escL ++ (furL ++ qcL) ++ quoL) c).length ≤ 6 := by decide +kernel
theorem chain_len5 : ∀ c < 128, (chainC (escL ++ qcL ++ quoL) c).length ≤ 6 := by decide +kernel
theorem chain_eq1 : ∀ c < 128, chainC (escL ++ (furL ++ qcL)) c = lookL (refL ++ furL) c := by decide +kernel
theorem chain_eq2 : ∀ c < 128, chainC (escL ++ qcL) c = lookL refL c := by decide +kernel
theorem chain_eq3 : ∀ c < 128, chainC (escL ++ (furL ++ qcL) ++ quoL) c = lookL (refL ++ furL ++ quoL) c := by decide +kernel
theorem chain_eq4 : ∀ c < 128, chainC (escL ++ qcL ++ quoL) c = lookL (refL ++ quoL) c := by decide +kernel
theorem has34a : ∀ c < 128, (34 ∈ chainC (escL ++ (furL ++ qcL)) c ↔ c = 34) := by decide +kernel
theorem has34b : ∀ c < 128, (34 ∈ chainC (escL ++ qcL) c ↔ c = 34) := by decide +kernel
theorem has39a : ∀ c < 128, (39 ∈ chainC (escL ++ (furL ++ qcL)) c ↔ c = 39) := by decide +kernel
theorem has39b : ∀ c < 128, (39 ∈ chainC (escL ++ qcL) c ↔ c = 39) := by decide +kernel
theorem flat_has {cs : List Nat} {f : Nat → List Nat} {k : Nat} (h : ∀ c ∈ cs, (k ∈ f c ↔ c = k)) : k ∈ cs.flatMap f ↔ k ∈ cs := by
  rw [List.mem_flatMap]
  constructor
  · rintro ⟨c, hc, hk⟩; exact (h c hc).mp hk ▸ hc
  · intro hk; exact ⟨k, hk, (h k hk).mpr rfl⟩
theorem flat_congr {cs : List Nat} {f g : Nat → List Nat} (h : ∀ c ∈ cs, f c = g c) : cs.flatMap f = cs.flatMap g := by
  induction cs with
  | nil => rfl
  | cons c cs ih => rw [List.flatMap_cons, List.flatMap_cons, h c List.mem_cons_self, ih fun d hd => h d (List.mem_cons_of_mem _ hd)]

theorem ofEmpty : Str.ofString "" = Str.empty := by decide +kernel
theorem app_mk (a b : Str) : a ++ b = ⟨a.cps ++ b.cps⟩ := rfl
theorem join_flat (f : Nat → List Nat) (cs : List Nat) : Txt.join (Str.ofString "") (cs.map fun c => (⟨(f c).toArray⟩ : Str)) = ⟨(cs.flatMap f).toArray⟩ := by
  rw [show ∀ l, Txt.join (Str.ofString "") l = Str.join (Str.ofString "") l from fun l => StrLaws.glued_eq_join _ _, ofEmpty]
  induction cs with
  | nil => rfl
  | cons c cs ih =>
    cases cs with
    | nil => simp [Str.join]
    | cons d cs =>
      rw [List.map_cons] at ih ⊢
      show (⟨(f c).toArray⟩ : Str) ++ Str.empty ++ Str.join Str.empty ((⟨(f d).toArray⟩ : Str) :: cs.map fun c => (⟨(f c).toArray⟩ : Str)) = _
      rw [ih, app_mk, app_mk]
      simp [Str.empty]
theorem join_look (L : NL) (cs : List Nat) : Txt.join (Str.ofString "") ((cs.map sgl).map (lookT (toP L))) = ⟨(cs.flatMap (lookL L)).toArray⟩ := by
  rw [← join_flat, List.map_map]
  congr 1
  refine List.map_congr_left fun c _ => ?_
  exact lookT_L L c
theorem any_sgl (cs : List Nat) (k : Nat) : ((cs.map sgl).any (· == sgl k)) = decide (k ∈ cs) := by
  rw [Bool.eq_iff_iff]
  simp only [List.any_eq_true, List.mem_map, beq_iff_eq, decide_eq_true_eq]
  constructor
  · rintro ⟨_, ⟨c, hc, rfl⟩, h⟩
    have : c = k := by simpa [sgl] using h
    exact this ▸ hc
  · intro h; exact ⟨_, ⟨k, h, rfl⟩, rfl⟩
theorem dq_sgl : dqS = sgl 34 := by decide +kernel
theorem sq_sgl : sqS = sgl 39 := by decide +kernel
theorem lacks_mem (l : List Nat) (k : Nat) : lacks ⟨l.toArray⟩ (sgl k) = !decide (k ∈ l) := by
  unfold lacks; rw [empty_one]
theorem slice_mid (m m' : Nat) (b : List Nat) : Txt.slice ⟨(m :: (b ++ [m'])).toArray⟩ (some 1) (some (-1)) = ⟨b.toArray⟩ := by
  generalize hx : (⟨(m :: (b ++ [m'])).toArray⟩ : Str) = x
  have hl : x.length = b.length + 2 := by subst hx; simp [Str.length]
  have hc : x.cps.toList = m :: (b ++ [m']) := by subst hx; rfl
  have e1 : Builtin.Str.strSliceIndices (some 1) (some (-1)) 1 x.length = Builtin.Str.strSliceIndices (some ((1 : Nat) : Int)) (some ((x.length - 1 : Nat) : Int)) 1 x.length := by
    rw [StrLaws.sliceIdx_neg_hi _ _ (by decide) (by omega)]
    congr 2
    omega
  unfold Txt.slice
  rw [e1]
  have e2 := StrLaws.sliced_plain x (a := 1) (b := x.length - 1) (by omega) (by omega)
  have e3 : (Builtin.Str.strSliceIndices (some ((1 : Nat) : Int)) (some ((x.length - 1 : Nat) : Int)) 1 x.length).length = x.length - 1 - 1 := by
    rw [StrLaws.strSliceIndices_plain (by omega) (by omega)]; simp
  rw [if_neg (by rw [e3]; simp; omega), e2, hc]
  congr 1
  rw [show x.length - 1 - 1 = b.length by omega]
  simp
set_option maxRecDepth 100000
abbrev UL := List (List Nat × List Nat)
def toQ (U : UL) : List (Str × Str) := U.map fun u => (⟨u.1.toArray⟩, ⟨u.2.toArray⟩)
def pieceC (U : UL) (q : List Nat) : List Nat := U.foldl (fun q u => if q = u.1 then u.2 else q) q
def entB (q : List Nat) : Bool := q.head? == some 38 && q.tail.getLast? == some 59 && !(q.tail.dropLast.contains 38) && !(q.tail.dropLast.contains 59)
def pokB (q : List Nat) : Bool := !(q.contains 38) || entB q
def okU : UL → List Nat → Bool
  | [], _ => true
  | u :: U, q => pokB q && okU U (if q = u.1 then u.2 else q)
theorem entB_ok {q : List Nat} (h : entB q = true) : Ent1 q := by
  unfold entB at h
  simp only [Bool.and_eq_true, Bool.not_eq_true', beq_iff_eq] at h
  obtain ⟨⟨⟨h1, h2⟩, h3⟩, h4⟩ := h
  cases q with
  | nil => cases h1
  | cons a r =>
    have ha : a = 38 := by simpa using h1
    subst ha
    rw [List.tail_cons] at h2 h3 h4
    refine ⟨r.dropLast, ?_, by simpa using h3, by simpa using h4⟩
    have hr : r ≠ [] := by rintro rfl; cases h2
    have hl : r.getLast hr = 59 := by rw [List.getLast?_eq_some_getLast hr] at h2; exact Option.some.inj h2
    rw [← hl, List.dropLast_concat_getLast hr]
theorem pokB_ok {q : List Nat} (h : pokB q = true) : PieceOk q := by
  unfold pokB at h
  rcases Bool.or_eq_true _ _ |>.mp h with h | h
  · exact .inl (by simpa using h)
  · exact .inr (entB_ok h)
theorem replP_pieces : ∀ (U : UL), (∀ u ∈ U, entB u.1 = true) → ∀ qs : List (List Nat), (∀ q ∈ qs, okU U q = true) → replP ⟨qs.flatten.toArray⟩ (toQ U) = ⟨(qs.map (pieceC U)).flatten.toArray⟩
  | [], _, qs, _ => by
    show (⟨qs.flatten.toArray⟩ : Str) = ⟨(qs.map fun q => q).flatten.toArray⟩
    rw [List.map_id']
  | u :: U, hU, qs, hq => by
    have hu := entB_ok (hU u List.mem_cons_self)
    have hul : 0 < (⟨u.1.toArray⟩ : Str).length := by
      obtain ⟨b, hb, _⟩ := hu
      show 0 < u.1.toArray.size
      rw [hb]; simp
    have e : Txt.replace ⟨qs.flatten.toArray⟩ ⟨u.1.toArray⟩ ⟨u.2.toArray⟩ = ⟨(qs.map fun q => if q = u.1 then u.2 else q).flatten.toArray⟩ := by
      refine str_ext ?_
      rw [replace_list _ _ _ hul]
      exact replS_pieces hu qs fun q h => by
        have := hq q h
        rw [okU, Bool.and_eq_true] at this
        exact pokB_ok this.1
    show replP (Txt.replace ⟨qs.flatten.toArray⟩ ⟨u.1.toArray⟩ ⟨u.2.toArray⟩) (toQ U) = _
    rw [e, replP_pieces U (fun v hv => hU v (List.mem_cons_of_mem _ hv)), List.map_map]
    · rfl
    · intro q h
      obtain ⟨q', h', rfl⟩ := List.mem_map.mp h
      have := hq q' h'
      rw [okU, Bool.and_eq_true] at this
      exact this.2
theorem okU_take : ∀ (U : UL) (i : Nat) (q : List Nat), okU U q = true → okU (U.take i) q = true
  | [], i, q, _ => by simp [okU]
  | u :: U, 0, q, _ => rfl
  | u :: U, i + 1, q, h => by
    rw [okU, Bool.and_eq_true] at h
    rw [List.take_succ_cons, okU, Bool.and_eq_true]
    exact ⟨h.1, okU_take U i _ h.2⟩

def uneL : UL := [([38, 108, 116, 59], [60]), ([38, 103, 116, 59], [62])]
def bacL : UL := [([38, 113, 117, 111, 116, 59], [34]), ([38, 35, 49, 48, 59], [10]), ([38, 35, 49, 51, 59], [13]), ([38, 35, 57, 59], [9]), ([38, 35, 54, 53, 59], [65]), ([38, 35, 54, 49, 59], [61])]
def ampL : UL := [([38, 97, 109, 112, 59], [38])]
def allU : UL := uneL ++ bacL ++ ampL
def uneP : List (Str × Str) := [(Str.ofString "&lt;", Str.ofString "<"), (Str.ofString "&gt;", Str.ofString ">")]
def ampP : List (Str × Str) := [(Str.ofString "&amp;", Str.ofString "&")]
theorem uneP_L : toQ uneL = uneP := by decide +kernel
theorem backP_L : toQ bacL = backP := by decide +kernel
theorem ampP_L : toQ ampL = ampP := by decide +kernel
theorem allU_ent : ∀ u ∈ allU, entB u.1 = true := by decide +kernel
theorem toQ_append (a b : UL) : toQ (a ++ b) = toQ a ++ toQ b := by simp [toQ]
theorem toQ_take (U : UL) (i : Nat) : toQ (U.take i) = (toQ U).take i := by simp [toQ, List.map_take]
/-- what unescape undoes -/
def Good (h : Nat → List Nat) : Prop := ∀ c < 128, okU allU (h c) = true ∧ pieceC allU (h c) = [c] ∧ ∀ i < 10, (pieceC (allU.take i) (h c)).length ≤ 6
theorem good1 : Good (lookL (refL ++ furL)) := by unfold Good; decide +kernel
theorem good2 : Good (lookL (refL ++ [])) := by unfold Good; decide +kernel
theorem good3 : Good (lookL (refL ++ furL ++ quoL)) := by unfold Good; decide +kernel
theorem good4 : Good (lookL (refL ++ [] ++ quoL)) := by unfold Good; decide +kernel
theorem une_rep {cs : List Nat} {h : Nat → List Nat} (hg : Good h) (hcs : ∀ c ∈ cs, c < 128) (i : Nat) : replP ⟨(cs.flatMap h).toArray⟩ (toQ (allU.take i)) = ⟨(cs.flatMap fun c => pieceC (allU.take i) (h c)).toArray⟩ := by
  rw [List.flatMap_def, replP_pieces _ (fun u hu => allU_ent u (List.mem_of_mem_take hu)), List.map_map, List.flatMap_def]
  · rfl
  · intro q hq
    obtain ⟨c, hc, rfl⟩ := List.mem_map.mp hq
    exact okU_take _ _ _ (hg c (hcs c hc)).1
theorem une_len {cs : List Nat} {h : Nat → List Nat} (hg : Good h) (hcs : ∀ c ∈ cs, c < 128) (hcl : cs.length ≤ 16) (i : Nat) (hi : i < 10) : (replP ⟨(cs.flatMap h).toArray⟩ (toQ (allU.take i))).length ≤ 96 := by
  rw [une_rep hg hcs]
  have := flat_len (f := fun c => pieceC (allU.take i) (h c)) (k := 6) fun c hc => (hg c (hcs c hc)).2.2 i hi
  show (cs.flatMap fun c => pieceC (allU.take i) (h c)).toArray.size ≤ 96
  rw [List.size_toArray]; omega
theorem une_all {cs : List Nat} {h : Nat → List Nat} {I : Str} (hI : I = ⟨(cs.flatMap h).toArray⟩) (hg : Good h) (hcs : ∀ c ∈ cs, c < 128) (hcl : cs.length ≤ 16) :
    I.length ≤ 96 ∧ (une1 I).length ≤ 1048576 ∧ (∀ i < backP.length, (replP (une2 I) (backP.take i)).length ≤ 1048576) ∧ (replP (une2 I) backP).length ≤ 1048576 ∧ Txt.replace (replP (une2 I) backP) (Str.ofString "&amp;") (Str.ofString "&") = ⟨cs.toArray⟩ := by
  subst hI
  have l := une_len hg hcs hcl
  have e2 : ∀ i, i ≤ 6 → replP (une2 ⟨(cs.flatMap h).toArray⟩) (backP.take i) = replP ⟨(cs.flatMap h).toArray⟩ (toQ (allU.take (2 + i))) := by
    intro i hi
    have e : allU.take (2 + i) = uneL ++ bacL.take i := by
      rw [show allU = uneL ++ (bacL ++ ampL) from List.append_assoc _ _ _, List.take_append, List.take_append]
      have h1 : uneL.take (2 + i) = uneL := List.take_of_length_le (by show 2 ≤ _; omega)
      have h2 : 2 + i - uneL.length = i := by show 2 + i - 2 = i; omega
      have h3 : i - bacL.length = 0 := by show i - 6 = 0; omega
      rw [h1, h2, h3, List.take_zero, List.append_nil]
    rw [e, toQ_append, toQ_take, uneP_L, backP_L, replP_append]
    rfl
  have e6 : backP.take 6 = backP := rfl
  refine ⟨?_, ?_, ?_, ?_, ?_⟩
  · exact l 0 (by decide)
  · have : une1 ⟨(cs.flatMap h).toArray⟩ = replP ⟨(cs.flatMap h).toArray⟩ (toQ (allU.take 1)) := by
      rw [show allU.take 1 = uneL.take 1 from rfl, toQ_take, uneP_L]; rfl
    rw [this]; exact Nat.le_trans (l 1 (by decide)) (by decide)
  · intro i hi
    have hi' : i < 6 := hi
    rw [e2 i (by omega)]; exact Nat.le_trans (l (2 + i) (by omega)) (by decide)
  · rw [← e6, e2 6 (by decide)]; exact Nat.le_trans (l 8 (by decide)) (by decide)
  · have : Txt.replace (replP (une2 ⟨(cs.flatMap h).toArray⟩) backP) (Str.ofString "&amp;") (Str.ofString "&") = replP ⟨(cs.flatMap h).toArray⟩ (toQ (allU.take 9)) := by
      rw [show allU.take 9 = uneL ++ bacL ++ ampL from rfl, toQ_append, toQ_append, uneP_L, backP_L, ampP_L, replP_append, replP_append]; rfl
    rw [this, une_rep hg hcs]
    congr 2
    have : cs.flatMap (fun c => pieceC (allU.take 9) (h c)) = cs.flatMap fun c => [c] := flat_congr fun c hc => (hg c (hcs c hc)).2.1
    rw [this]; simp
theorem chain_sz1 : ∀ i < 5, ∀ c < 128, (chainC (escL ++ (furL ++ qcL).take i) c).length ≤ 6 := by decide +kernel
theorem chain_sz2 : ∀ i < 3, ∀ c < 128, (chainC (escL ++ ([] ++ qcL).take i) c).length ≤ 6 := by decide +kernel
theorem quote_core (fL : NL) {cs : List Nat} {W : Str} (hW : W = ⟨cs.toArray⟩) (hcs : ∀ c ∈ cs, c < 128) (hcl : cs.length ≤ 16)
    (hA : ∀ i < fL.length + 3, ∀ c < 128, (chainC (escL ++ (fL ++ qcL).take i) c).length ≤ 6) (hA' : ∀ c < 128, (chainC (escL ++ (fL ++ qcL)) c).length ≤ 6)
    (hB : ∀ c < 128, (chainC (escL ++ (fL ++ qcL) ++ quoL) c).length ≤ 6) (hC : ∀ c < 128, chainC (escL ++ (fL ++ qcL)) c = lookL (refL ++ fL) c) (hD : ∀ c < 128, chainC (escL ++ (fL ++ qcL) ++ quoL) c = lookL (refL ++ fL ++ quoL) c)
    (h34 : ∀ c < 128, (34 ∈ chainC (escL ++ (fL ++ qcL)) c ↔ c = 34)) (h39 : ∀ c < 128, (39 ∈ chainC (escL ++ (fL ++ qcL)) c ↔ c = 39)) (hG : Good (lookL (refL ++ fL))) (hH : Good (lookL (refL ++ fL ++ quoL))) :
    W.length ≤ 1048576 ∧ (esc1 W).length ≤ 1048576 ∧ (esc2 W).length ≤ 1048576 ∧ (∀ i < fL.length + 3, (replP (esc3 W) ((toP fL ++ qcs).take i)).length ≤ 1048576) ∧ (replP (esc3 W) (toP fL ++ qcs)).length ≤ 200 ∧
      (Txt.replace (replP (esc3 W) (toP fL ++ qcs)) (Str.ofString "\"") (Str.ofString "&quot;")).length ≤ 200 ∧ ∃ Z I, quoteS (replP (esc3 W) (toP fL ++ qcs)) = Z ∧ quotedS (cs.map sgl) (toP fL) = Z ∧ Z.length ≤ 1048576 ∧ Txt.slice Z (some 1) (some (-1)) = I ∧
        I.length ≤ 1048576 ∧ (une1 I).length ≤ 1048576 ∧ (∀ i < backP.length, (replP (une2 I) (backP.take i)).length ≤ 1048576) ∧ (replP (une2 I) backP).length ≤ 1048576 ∧ Txt.replace (replP (une2 I) backP) (Str.ofString "&amp;") (Str.ofString "&") = W := by
  subst hW
  have eD : replP (esc3 ⟨cs.toArray⟩) (toP fL ++ qcs) = replP ⟨cs.toArray⟩ (toP (escL ++ (fL ++ qcL))) := by
    rw [esc3_P, ← replP_append, toP_append, toP_append, escP_L, qcs_L]
  have eQ : Txt.replace (replP (esc3 ⟨cs.toArray⟩) (toP fL ++ qcs)) (Str.ofString "\"") (Str.ofString "&quot;") = replP ⟨cs.toArray⟩ (toP (escL ++ (fL ++ qcL) ++ quoL)) := by
    rw [eD, toP_append _ quoL, quot_L, replP_append]; rfl
  have hD' : replP (esc3 ⟨cs.toArray⟩) (toP fL ++ qcs) = ⟨(cs.flatMap (lookL (refL ++ fL))).toArray⟩ := by
    rw [eD, replP_chain, flat_congr fun c hc => hC c (hcs c hc)]
  have hQ' : Txt.replace (replP (esc3 ⟨cs.toArray⟩) (toP fL ++ qcs)) (Str.ofString "\"") (Str.ofString "&quot;") = ⟨(cs.flatMap (lookL (refL ++ fL ++ quoL))).toArray⟩ := by
    rw [eQ, replP_chain, flat_congr fun c hc => hD c (hcs c hc)]
  have m34 : 34 ∈ cs.flatMap (lookL (refL ++ fL)) ↔ 34 ∈ cs := by
    rw [← flat_congr fun c hc => hC c (hcs c hc)]; exact flat_has fun c hc => h34 c (hcs c hc)
  have m39 : 39 ∈ cs.flatMap (lookL (refL ++ fL)) ↔ 39 ∈ cs := by
    rw [← flat_congr fun c hc => hC c (hcs c hc)]; exact flat_has fun c hc => h39 c (hcs c hc)
  have e1 : (refsP ++ toP fL) = toP (refL ++ fL) := by rw [toP_append, refs_L]
  have e2 : (refsP ++ toP fL ++ quotP) = toP (refL ++ fL ++ quoL) := by rw [toP_append, toP_append, refs_L, quot_L]
  refine ⟨?_, ?_, ?_, ?_, ?_, ?_, ?_⟩
  · show cs.toArray.size ≤ _; rw [List.size_toArray]; omega
  · rw [esc1_P, ← escP_L, ← toP_take]; exact Nat.le_trans (rep_len _ (chain_len1 1 (by decide)) hcs hcl) (by decide)
  · rw [esc2_P, ← escP_L, ← toP_take]; exact Nat.le_trans (rep_len _ (chain_len1 2 (by decide)) hcs hcl) (by decide)
  · intro i hi
    have : replP (esc3 ⟨cs.toArray⟩) ((toP fL ++ qcs).take i) = replP ⟨cs.toArray⟩ (toP (escL ++ (fL ++ qcL).take i)) := by
      rw [esc3_P, ← replP_append, toP_append, toP_take, toP_append, escP_L, qcs_L]
    rw [this]; exact Nat.le_trans (rep_len _ (hA i hi) hcs hcl) (by decide)
  · rw [eD]; exact Nat.le_trans (rep_len _ hA' hcs hcl) (by decide)
  · rw [eQ]; exact Nat.le_trans (rep_len _ hB hcs hcl) (by decide)
  · unfold quoteS quotedS
    rw [e2, e1, hQ', hD', join_look, join_look, show Str.ofString "\"" = sgl 34 from dq_sgl, show Str.ofString "'" = sgl 39 from sq_sgl, dq_sgl, sq_sgl, lacks_mem, lacks_mem, any_sgl, any_sgl]
    have fin : ∀ (m : Nat) (h : Nat → List Nat), Good h → ∃ Z I : Str, sgl m ++ ⟨(cs.flatMap h).toArray⟩ ++ sgl m = Z ∧ sgl m ++ ⟨(cs.flatMap h).toArray⟩ ++ sgl m = Z ∧ Z.length ≤ 1048576 ∧ Txt.slice Z (some 1) (some (-1)) = I ∧
        I.length ≤ 1048576 ∧ (une1 I).length ≤ 1048576 ∧ (∀ i < backP.length, (replP (une2 I) (backP.take i)).length ≤ 1048576) ∧ (replP (une2 I) backP).length ≤ 1048576 ∧ Txt.replace (replP (une2 I) backP) (Str.ofString "&amp;") (Str.ofString "&") = ⟨cs.toArray⟩ := by
      intro m h hg
      obtain ⟨a1, a2, a3, a4, a5⟩ := une_all rfl hg hcs hcl
      refine ⟨_, ⟨(cs.flatMap h).toArray⟩, rfl, rfl, ?_, ?_, Nat.le_trans a1 (by decide), a2, a3, a4, a5⟩
      · rw [Str.length_append, Str.length_append]
        have : (sgl m).length = 1 := rfl
        omega
      · have : sgl m ++ ⟨(cs.flatMap h).toArray⟩ ++ sgl m = (⟨(m :: (cs.flatMap h ++ [m])).toArray⟩ : Str) := by
          rw [app_mk, app_mk]; refine str_ext ?_; simp
        rw [this]; exact slice_mid _ _ _
    by_cases c34 : 34 ∈ cs
    · have n34 : ¬ (!decide (34 ∈ cs.flatMap (lookL (refL ++ fL)))) = true := by rw [decide_eq_true (m34.mpr c34)]; exact Bool.false_ne_true
      have p34 : decide (34 ∈ cs) = true := by simpa using c34
      rw [if_neg n34, if_pos p34]
      by_cases c39 : 39 ∈ cs
      · have n39 : ¬ (!decide (39 ∈ cs.flatMap (lookL (refL ++ fL)))) = true := by rw [decide_eq_true (m39.mpr c39)]; exact Bool.false_ne_true
        have p39 : decide (39 ∈ cs) = true := by simpa using c39
        rw [if_neg n39, if_pos p39]
        exact fin 34 _ hH
      · have n39 : (!decide (39 ∈ cs.flatMap (lookL (refL ++ fL)))) = true := by rw [decide_eq_false (fun q => c39 (m39.mp q))]; rfl
        have p39 : ¬ decide (39 ∈ cs) = true := by simpa using c39
        rw [if_pos n39, if_neg p39]
        exact fin 39 _ hG
    · have n34 : (!decide (34 ∈ cs.flatMap (lookL (refL ++ fL)))) = true := by rw [decide_eq_false (fun q => c34 (m34.mp q))]; rfl
      have p34 : ¬ decide (34 ∈ cs) = true := by simpa using c34
      rw [if_pos n34, if_neg p34]
      exact fin 34 _ hG
theorem chain_e2 : ∀ c < 128, chainC (escL ++ ([] ++ qcL)) c = lookL (refL ++ []) c := by decide +kernel
theorem chain_e4 : ∀ c < 128, chainC (escL ++ ([] ++ qcL) ++ quoL) c = lookL (refL ++ [] ++ quoL) c := by decide +kernel
theorem quote_gen {cs : List Nat} {ps : List (Str × Str)} {W : Str} {n : Nat} (hW : W = ⟨cs.toArray⟩) (hcs : ∀ c ∈ cs, c < 128) (hcl : cs.length ≤ 16) (hps : ps = [] ∨ ps = furP) (hn : n = ps.length) :
    W.length ≤ 1048576 ∧ (esc1 W).length ≤ 1048576 ∧ (esc2 W).length ≤ 1048576 ∧ (∀ i < n + 3, (replP (esc3 W) ((ps ++ qcs).take i)).length ≤ 1048576) ∧ (replP (esc3 W) (ps ++ qcs)).length ≤ 200 ∧
      (Txt.replace (replP (esc3 W) (ps ++ qcs)) (Str.ofString "\"") (Str.ofString "&quot;")).length ≤ 200 ∧ ∃ Z I, quoteS (replP (esc3 W) (ps ++ qcs)) = Z ∧ quotedS (cs.map sgl) ps = Z ∧ Z.length ≤ 1048576 ∧ Txt.slice Z (some 1) (some (-1)) = I ∧
        I.length ≤ 1048576 ∧ (une1 I).length ≤ 1048576 ∧ (∀ i < backP.length, (replP (une2 I) (backP.take i)).length ≤ 1048576) ∧ (replP (une2 I) backP).length ≤ 1048576 ∧ Txt.replace (replP (une2 I) backP) (Str.ofString "&amp;") (Str.ofString "&") = W := by
  subst hn
  rcases hps with rfl | rfl
  · exact quote_core [] hW hcs hcl chain_sz2 (by rw [List.nil_append]; exact fun c hc => chain_len3 3 (by decide) c hc) chain_len5 chain_e2 chain_e4 has34b has39b good2 good4
  · rw [← furP_L]
    exact quote_core furL hW hcs hcl chain_sz1 (fun c hc => chain_len2 5 (by decide) c hc) chain_len4 chain_eq1 chain_eq3 has34a has39a good1 good3
set_option maxRecDepth 100000
theorem div_pow_add (x : Int) (a b : Nat) : x / 2 ^ a / 2 ^ b = x / 2 ^ (a + b) := by
  rw [Int.ediv_ediv_of_nonneg (Int.le_of_lt (Int.pow_pos (by decide))), Int.pow_add]
theorem shift_div (x : Int) (s k : Nat) (h : s ≤ k) : x * 2 ^ s / 2 ^ k = x / 2 ^ (k - s) := by
  obtain ⟨d, rfl⟩ : ∃ d, k = s + d := ⟨k - s, by omega⟩
  rw [Nat.add_sub_cancel_left, Int.pow_add, Int.mul_comm x]
  exact Int.mul_ediv_mul_of_pos _ _ (Int.pow_pos (by decide))
theorem pow64 (k : Nat) : (64 : Int) ^ k = 2 ^ (6 * k) := by rw [Int.pow_mul]; rfl
theorem pow256 (k : Nat) : (256 : Int) ^ k = 2 ^ (8 * k) := by rw [Int.pow_mul]; rfl
theorem bfold_snoc (l : List UInt8) (b : UInt8) : bfold (l ++ [b]) = bfold l * 256 + (b.toNat : Int) := by unfold bfold; rw [List.foldl_append]; rfl
theorem wfold_snoc (l : List Int) (f : Int) : wfold (l ++ [f]) = wfold l * 64 + f := by unfold wfold; rw [List.foldl_append]; rfl
theorem bfold_nonneg : ∀ l : List UInt8, 0 ≤ bfold l := by
  have key : ∀ (l : List UInt8) (a : Int), 0 ≤ a → 0 ≤ l.foldl (fun a n => a * 256 + (n.toNat : Int)) a := by
    intro l
    induction l with
    | nil => intro a h; exact h
    | cons b l ih => intro a h; exact ih _ (by show 0 ≤ a * 256 + (b.toNat : Int); omega)
  exact fun l => key l 0 (Int.le_refl _)
theorem snoc_ind {α : Type} {P : List α → Prop} (h0 : P []) (h1 : ∀ l a, P l → P (l ++ [a])) (l : List α) : P l := by
  have key : ∀ r : List α, P r.reverse := by
    intro r
    induction r with
    | nil => exact h0
    | cons a r ih => rw [List.reverse_cons]; exact h1 _ _ ih
  have := key l.reverse
  rwa [List.reverse_reverse] at this
theorem bfold_lt (l : List UInt8) : bfold l < 256 ^ l.length := by
  induction l using snoc_ind with
  | h0 => exact (by decide : (0 : Int) < 1)
  | h1 l b ih =>
    have hb := b.toNat_lt
    rw [bfold_snoc, List.length_append, List.length_singleton, Int.pow_succ]
    omega
theorem low_gen (x a c : Int) (ha : a ≠ 0) : x % (a * (64 * c)) / a % 64 = x / a % 64 := by
  rw [Int.emod_def x (a * (64 * c)), Int.sub_eq_add_neg, Int.mul_assoc a, ← Int.mul_neg, Int.add_mul_ediv_left _ _ ha, Int.mul_assoc 64, ← Int.mul_neg, Int.add_mul_emod_self_left]
theorem lc_next (V n : Int) : (V % 65536 * 256 + n) % 65536 = (V * 256 + n) % 65536 := by
  rw [Int.add_emod, Int.mul_emod, Int.emod_emod_of_dvd V (Int.dvd_refl 65536), ← Int.mul_emod, ← Int.add_emod]
/-- a number whose lower part is below b -/
theorem high (X b f : Int) (hb : b ≠ 0) (h0 : 0 ≤ f) (h1 : f < b) : (X * b + f) / b = X := by
  rw [Int.add_comm, Int.add_mul_ediv_right _ _ hb, Int.ediv_eq_zero_of_lt h0 h1, Int.zero_add]
/-- the figure whose bits begin at 6 i of t -/
def figV (V : Int) (t i : Nat) : Int := V / 2 ^ (t - 6 * (i + 1)) % 64
theorem figV_next {V n : Int} {t i : Nat} (h0 : 0 ≤ n) (h1 : n < 256) (h : 6 * (i + 1) ≤ t) : figV (V * 256 + n) (t + 8) i = figV V t i := by
  unfold figV
  rw [Nat.add_comm t 8, Nat.add_sub_assoc h, ← div_pow_add]
  exact congrArg (· / 2 ^ (t - 6 * (i + 1)) % 64) (high V 256 n (by decide) h0 h1)
theorem map_figV {V n : Int} {t k : Nat} (h0 : 0 ≤ n) (h1 : n < 256) (h : 6 * k ≤ t) : (List.range k).map (fun i => b64I (figV V t i)) = (List.range k).map (fun i => b64I (figV (V * 256 + n) (t + 8) i)) :=
  List.map_congr_left fun i hi => congrArg b64I (figV_next h0 h1 (Nat.le_trans (Nat.mul_le_mul_left 6 (List.mem_range.mp hi)) h)).symm
theorem bst0 (o : List Int) (lc n : Int) : b2aStep (o, lc, ((0 : Nat) : Int)) n = (o ++ [b64I ((lc * 256 + n) % 65536 / 4 % 64)], (lc * 256 + n) % 65536, 2) := rfl
theorem bst2 (o : List Int) (lc n : Int) : b2aStep (o, lc, ((2 : Nat) : Int)) n = (o ++ [b64I ((lc * 256 + n) % 65536 / 16 % 64)], (lc * 256 + n) % 65536, 4) := rfl
theorem bst4 (o : List Int) (lc n : Int) : b2aStep (o, lc, ((4 : Nat) : Int)) n = (o ++ [b64I ((lc * 256 + n) % 65536 / 64 % 64), b64I ((lc * 256 + n) % 65536 % 64)], (lc * 256 + n) % 65536, 0) := rfl
theorem ast0 (o : List Int) (lc f : Int) : a2bStep (o, ((0 : Nat) : Int), lc) f = (o, 1, f) := rfl
theorem ast1 (o : List Int) (lc f : Int) : a2bStep (o, ((1 : Nat) : Int), lc) f = (o ++ [lc * 4 + f / 16], 2, f % 16) := rfl
theorem ast2 (o : List Int) (lc f : Int) : a2bStep (o, ((2 : Nat) : Int), lc) f = (o ++ [lc * 16 + f / 4], 3, f % 4) := rfl
theorem ast3 (o : List Int) (lc f : Int) : a2bStep (o, ((3 : Nat) : Int), lc) f = (o ++ [lc * 64 + f], 0, 0) := rfl
/-- where the loop stands: k figures are out, b bits are left -/
def B2At (l : List UInt8) (k b : Nat) : Prop := 8 * l.length = 6 * k + b ∧ b2aRun l = ((List.range k).map (fun i => b64I (figV (bfold l) (6 * k + b) i)), bfold l % 65536, (b : Int))
theorem figV_at (V : Int) (k b : Nat) : figV V (6 * (k + 1) + b) k = V / 2 ^ b % 64 := by unfold figV; rw [Nat.add_sub_cancel_left]
theorem b2a_inv (l : List UInt8) : ∃ k, B2At l k 0 ∨ B2At l k 2 ∨ B2At l k 4 := by
  induction l using snoc_ind with
  | h0 => exact ⟨0, .inl ⟨rfl, rfl⟩⟩
  | h1 l b ih =>
    have hb0 : (0 : Int) ≤ (b.toNat : Int) := Int.natCast_nonneg _
    have hb1 : (b.toNat : Int) < 256 := Int.ofNat_lt.mpr b.toNat_lt
    have hlen : 8 * (l ++ [b]).length = 8 * l.length + 8 := by rw [List.length_append, List.length_singleton]; rfl
    have hlc := lc_next (bfold l) (b.toNat : Int)
    have hrun : ∀ {k r : Nat}, B2At l k r → b2aRun (l ++ [b]) = b2aStep ((List.range k).map (fun i => b64I (figV (bfold (l ++ [b])) (6 * k + r + 8) i)), bfold l % 65536, (r : Int)) (b.toNat : Int) := by
      intro k r h
      rw [b2aRun_snoc, h.2, bfold_snoc, map_figV hb0 hb1 (Nat.le_add_right _ _)]
    obtain ⟨k, h | h | h⟩ := ih
    · refine ⟨k + 1, .inr (.inl ⟨by rw [hlen, h.1]; rfl, ?_⟩)⟩
      rw [hrun h, bst0, hlc, ← bfold_snoc, List.range_succ, List.map_append, List.map_singleton, figV_at, show (bfold (l ++ [b])) % 65536 / 4 % 64 = bfold (l ++ [b]) / 4 % 64 from low_gen _ 4 256 (by decide)]
      rfl
    · refine ⟨k + 1, .inr (.inr ⟨by rw [hlen, h.1]; rfl, ?_⟩)⟩
      rw [hrun h, bst2, hlc, ← bfold_snoc, List.range_succ, List.map_append, List.map_singleton, figV_at, show (bfold (l ++ [b])) % 65536 / 16 % 64 = bfold (l ++ [b]) / 16 % 64 from low_gen _ 16 64 (by decide)]
      rfl
    · refine ⟨k + 1 + 1, .inl ⟨by rw [hlen, h.1]; rfl, ?_⟩⟩
      rw [hrun h, bst4, hlc, ← bfold_snoc, List.range_succ (n := k + 1), List.range_succ (n := k), List.map_append, List.map_append, List.map_singleton, List.map_singleton, figV_at, show figV (bfold (l ++ [b])) (6 * (k + 1 + 1) + 0) k = figV (bfold (l ++ [b])) (6 * (k + 1) + 6) k from rfl, figV_at,
        show (bfold (l ++ [b])) % 65536 / 64 % 64 = bfold (l ++ [b]) / 64 % 64 from low_gen _ 64 16 (by decide), Int.emod_emod_of_dvd _ (⟨1024, rfl⟩ : (64 : Int) ∣ 65536), List.append_assoc, Int.pow_zero, Int.ediv_one]
      rfl
theorem figE_V (l : List UInt8) {t i n s : Nat} (ht : 8 * l.length = t) (hn : (8 * l.length + 5) / 6 = n) (hs : 6 * n = t + s) (hi : 6 * (i + 1) ≤ t) : figE l i = figV (bfold l) t i := by
  have e : 6 * (n - 1 - i) = t - 6 * (i + 1) + s := by
    rw [Nat.sub_sub, Nat.add_comm 1 i, Nat.mul_sub, hs, Nat.sub_add_comm hi]
  unfold figE figV
  rw [hn, ht, hs, Nat.add_sub_cancel_left, pow64, e, shift_div _ _ _ (Nat.le_add_left _ _), Nat.add_sub_cancel]
/-- how many = -/
def padOf (L : Nat) : Nat := (6 - 8 * L % 6) % 6 / 2
theorem map_figE (l : List UInt8) {t n s k : Nat} (ht : 8 * l.length = t) (hn : (8 * l.length + 5) / 6 = n) (hs : 6 * n = t + s) (hk : 6 * k ≤ t) :
    (List.range k).map (fun i => b64I (figV (bfold l) t i)) = (List.range k).map (b64I ∘ figE l) :=
  List.map_congr_left fun i hi => congrArg b64I (figE_V l ht hn hs (Nat.le_trans (Nat.mul_le_mul_left 6 (List.mem_range.mp hi)) hk)).symm
theorem figE_last (l : List UInt8) {k b s : Nat} (ht : 8 * l.length = 6 * k + b) (hn : (8 * l.length + 5) / 6 = k + 1) (hs : b + s = 6) : figE l k = bfold l * 2 ^ s % 64 := by
  unfold figE
  rw [hn, ht, Nat.add_sub_cancel, Nat.sub_self, Int.pow_zero, Int.ediv_one, show 6 * (k + 1) = 6 * k + b + s by rw [Nat.add_assoc, hs]; rfl, Nat.add_sub_cancel_left]
theorem b2a_enc (l : List UInt8) : b2aOut l = enc (figF l) (padOf l.length) := by
  unfold b2aOut enc figF padOf
  obtain ⟨k, h | h | h⟩ := b2a_inv l
  · have hn : (8 * l.length + 5) / 6 = k := by rw [h.1]; exact Nat.mul_add_div (by decide) k 5
    rw [h.2, List.map_map, hn, h.1, map_figE l h.1 hn (s := 0) rfl (Nat.le_refl _), Nat.mul_add_mod]
    rfl
  · have hn : (8 * l.length + 5) / 6 = k + 1 := by rw [h.1]; exact Nat.mul_add_div (by decide) k 7
    rw [h.2, List.map_map, hn, h.1, map_figE l h.1 hn (s := 4) rfl (Nat.le_add_right _ _), Nat.mul_add_mod, List.range_succ, List.map_append, List.append_assoc, List.map_singleton]
    show _ ++ [b64I (bfold l % 65536 % 4 * 16), 61, 61] = _ ++ [b64I (figE l k), 61, 61]
    rw [figE_last l h.1 hn (s := 4) rfl, Int.emod_emod_of_dvd _ (⟨16384, rfl⟩ : (4 : Int) ∣ 65536)]
    rw [show bfold l * 2 ^ 4 % 64 = bfold l % 4 * 16 by omega]
  · have hn : (8 * l.length + 5) / 6 = k + 1 := by rw [h.1]; exact Nat.mul_add_div (by decide) k 9
    rw [h.2, List.map_map, hn, h.1, map_figE l h.1 hn (s := 2) rfl (Nat.le_add_right _ _), Nat.mul_add_mod, List.range_succ, List.map_append, List.append_assoc, List.map_singleton]
    show _ ++ [b64I (bfold l % 65536 % 16 * 4), 61] = _ ++ [b64I (figE l k), 61]
    rw [figE_last l h.1 hn (s := 2) rfl, Int.emod_emod_of_dvd _ (⟨4096, rfl⟩ : (16 : Int) ∣ 65536)]
    rw [show bfold l * 2 ^ 2 % 64 = bfold l % 16 * 4 by omega]
/-- the octet whose bits begin at 8 j of t -/
def octV (X : Int) (t j : Nat) : Int := X / 2 ^ (t - 8 * (j + 1)) % 256
theorem octV_next {X f : Int} {t j : Nat} (h0 : 0 ≤ f) (h1 : f < 64) (h : 8 * (j + 1) ≤ t) : octV (X * 64 + f) (t + 6) j = octV X t j := by
  unfold octV
  rw [Nat.add_comm t 6, Nat.add_sub_assoc h, ← div_pow_add]
  exact congrArg (· / 2 ^ (t - 8 * (j + 1)) % 256) (high X 64 f (by decide) h0 h1)
theorem map_octV {X f : Int} {t k : Nat} (h0 : 0 ≤ f) (h1 : f < 64) (h : 8 * k ≤ t) : (List.range k).map (fun j => octV X t j) = (List.range k).map (fun j => octV (X * 64 + f) (t + 6) j) :=
  List.map_congr_left fun i hi => (octV_next h0 h1 (Nat.le_trans (Nat.mul_le_mul_left 8 (List.mem_range.mp hi)) h)).symm
theorem oct_gen (X f a b c : Int) (ha : 0 < a) (hb : 0 < b) (hc : 0 < c) (h0 : 0 ≤ f) (h1 : f < b * a) : X % c * b + f / a = (X * (b * a) + f) / a % (c * b) := by
  have g0 : 0 ≤ f / a := Int.ediv_nonneg h0 (Int.le_of_lt ha)
  have g1 : f / a < b := Int.ediv_lt_of_lt_mul ha h1
  have e : (X * (b * a) + f) / a = X % c * b + f / a + c * b * (X / c) := by
    rw [← Int.mul_assoc, Int.add_comm, Int.add_mul_ediv_right _ _ (Int.ne_of_gt ha), Int.add_comm, Int.add_right_comm, Int.mul_right_comm c b, ← Int.add_mul, Int.emod_add_mul_ediv]
  rw [e, Int.add_mul_emod_self_left]
  refine (Int.emod_eq_of_lt (Int.add_nonneg (Int.mul_nonneg (Int.emod_nonneg _ (Int.ne_of_gt hc)) (Int.le_of_lt hb)) g0) ?_).symm
  have g2 : (X % c + 1) * b ≤ c * b := Int.mul_le_mul_of_nonneg_right (Int.add_one_le_of_lt (Int.emod_lt_of_pos _ hc)) (Int.le_of_lt hb)
  rw [Int.add_mul, Int.one_mul] at g2
  exact Int.lt_of_lt_of_le (Int.add_lt_add_left g1 _) g2
theorem rest_gen (X f m k : Int) : f % m = (X * (k * m) + f) % m := by rw [← Int.mul_assoc, Int.add_comm, Int.add_mul_emod_self_right]
/-- where the loop stands: c octets are out, b bits are left, q figures of the four are read -/
def A2At (l : List Int) (c b q : Nat) (m : Int) : Prop := 6 * l.length = 8 * c + b ∧ a2bRun l = ((List.range c).map (fun j => octV (wfold l) (8 * c + b) j), (q : Int), wfold l % m)
theorem octV_at (X : Int) (c b : Nat) : octV X (8 * (c + 1) + b) c = X / 2 ^ b % 256 := by unfold octV; rw [Nat.add_sub_cancel_left]
theorem a2b_inv (l : List Int) (hl : ∀ f ∈ l, 0 ≤ f ∧ f < 64) : ∃ c, A2At l c 0 0 1 ∨ A2At l c 6 1 64 ∨ A2At l c 4 2 16 ∨ A2At l c 2 3 4 := by
  induction l using snoc_ind with
  | h0 => exact ⟨0, .inl ⟨rfl, rfl⟩⟩
  | h1 l f ih =>
    obtain ⟨h0, h1⟩ := hl f (List.mem_append_right _ (List.mem_singleton.mpr rfl))
    have hlen : 6 * (l ++ [f]).length = 6 * l.length + 6 := by rw [List.length_append, List.length_singleton]; rfl
    have hrun : ∀ {c b q : Nat} {m : Int}, A2At l c b q m → a2bRun (l ++ [f]) = a2bStep ((List.range c).map (fun j => octV (wfold (l ++ [f])) (8 * c + b + 6) j), (q : Int), wfold l % m) f := by
      intro c b q m h
      rw [a2bRun_snoc, h.2, wfold_snoc, map_octV h0 h1 (Nat.le_add_right _ _)]
    obtain ⟨c, h | h | h | h⟩ := ih fun g hg => hl g (List.mem_append_left _ hg)
    · refine ⟨c, .inr (.inl ⟨by rw [hlen, h.1], ?_⟩)⟩
      rw [hrun h, ast0, wfold_snoc]
      refine Prod.ext rfl (Prod.ext rfl ?_)
      show f = (wfold l * (1 * 64) + f) % 64
      rw [← rest_gen, Int.emod_eq_of_lt h0 h1]
    · refine ⟨c + 1, .inr (.inr (.inl ⟨by rw [hlen, h.1]; rfl, ?_⟩))⟩
      rw [hrun h, ast1, List.range_succ, List.map_append, List.map_singleton, octV_at, wfold_snoc]
      refine Prod.ext ?_ (Prod.ext rfl (rest_gen (wfold l) f 16 4))
      exact congrArg (fun z => _ ++ [z]) (oct_gen (wfold l) f 16 4 64 (by decide) (by decide) (by decide) h0 h1)
    · refine ⟨c + 1, .inr (.inr (.inr ⟨by rw [hlen, h.1]; rfl, ?_⟩))⟩
      rw [hrun h, ast2, List.range_succ, List.map_append, List.map_singleton, octV_at, wfold_snoc]
      refine Prod.ext ?_ (Prod.ext rfl (rest_gen (wfold l) f 4 16))
      exact congrArg (fun z => _ ++ [z]) (oct_gen (wfold l) f 4 16 16 (by decide) (by decide) (by decide) h0 h1)
    · refine ⟨c + 1, .inl ⟨by rw [hlen, h.1]; rfl, ?_⟩⟩
      rw [hrun h, ast3, List.range_succ, List.map_append, List.map_singleton, octV_at, wfold_snoc]
      refine Prod.ext ?_ (Prod.ext rfl (Int.emod_one _).symm)
      have := oct_gen (wfold l) f 1 64 4 (by decide) (by decide) (by decide) h0 h1
      rw [Int.ediv_one] at this
      exact congrArg (fun z => _ ++ [z]) this
theorem oct_V (l : List Int) {t n b : Nat} (ht : 6 * l.length = t) (hn : 6 * l.length / 8 = n) (hb : t = 8 * n + b) : (List.range n).map (fun j => octV (wfold l) t j) = octF l := by
  unfold octF
  rw [hn]
  refine List.map_congr_left fun i hi => ?_
  have hi' : 8 * (i + 1) ≤ 8 * n := Nat.mul_le_mul_left 8 (List.mem_range.mp hi)
  unfold octV octE
  rw [pow256, div_pow_add, hn, ht, Nat.sub_sub n 1 i, Nat.add_comm 1 i, Nat.mul_sub, Nat.sub_add_sub_cancel (by rw [hb]; exact Nat.le_add_right _ _) hi']
theorem a2b_oct (l : List Int) (hl : ∀ f ∈ l, 0 ≤ f ∧ f < 64) : (a2bRun l).1 = octF l := by
  have key : ∀ {c b q : Nat} {m : Int}, A2At l c b q m → b / 8 = 0 → (a2bRun l).1 = octF l := by
    intro c b q m h hb
    rw [h.2]
    exact oct_V l h.1 (by rw [h.1, Nat.mul_add_div (by decide), hb]; rfl) rfl
  obtain ⟨c, h | h | h | h⟩ := a2b_inv l hl
  · exact key h rfl
  · exact key h rfl
  · exact key h rfl
  · exact key h rfl
theorem wfold_digits : ∀ (n : Nat) (Y : Int), 0 ≤ Y → Y < 64 ^ n → wfold ((List.range n).map fun i => Y / 64 ^ (n - 1 - i) % 64) = Y
  | 0, Y, h0, h1 => Int.le_antisymm h0 (Int.le_of_lt_add_one h1)
  | n + 1, Y, h0, h1 => by
    rw [Int.pow_succ] at h1
    have ih := wfold_digits n (Y / 64) (Int.ediv_nonneg h0 (by decide)) (Int.ediv_lt_of_lt_mul (by decide) h1)
    have e : (List.range n).map (fun i => Y / 64 ^ (n + 1 - 1 - i) % 64) = (List.range n).map fun i => Y / 64 / 64 ^ (n - 1 - i) % 64 := by
      refine List.map_congr_left fun i hi => ?_
      obtain ⟨d, hd⟩ := Nat.exists_eq_add_of_lt (List.mem_range.mp hi)
      rw [hd, Nat.add_sub_cancel, show i + d + 1 - i = d + 1 by rw [Nat.add_assoc, Nat.add_sub_cancel_left], Nat.add_sub_cancel, Nat.add_sub_cancel_left, Int.pow_succ, Int.mul_comm, Int.ediv_ediv_of_nonneg (by decide)]
    rw [List.range_succ, List.map_append, List.map_singleton, wfold_snoc, e, ih, Nat.add_sub_cancel, Nat.sub_self, Int.pow_zero, Int.ediv_one, Int.mul_comm, Int.mul_ediv_add_emod]
theorem bytes_digits (l : List UInt8) : (List.range l.length).map (fun i => bfold l / 256 ^ (l.length - 1 - i) % 256) = l.map fun b => (b.toNat : Int) := by
  induction l using snoc_ind with
  | h0 => rfl
  | h1 l b ih =>
    have hb0 : (0 : Int) ≤ (b.toNat : Int) := Int.natCast_nonneg _
    have hb1 : (b.toNat : Int) < 256 := Int.ofNat_lt.mpr b.toNat_lt
    have e : (List.range l.length).map (fun i => (bfold l * 256 + (b.toNat : Int)) / 256 ^ (l.length + 1 - 1 - i) % 256) = (List.range l.length).map fun i => bfold l / 256 ^ (l.length - 1 - i) % 256 := by
      refine List.map_congr_left fun i hi => ?_
      obtain ⟨d, hd⟩ := Nat.exists_eq_add_of_lt (List.mem_range.mp hi)
      rw [hd, Nat.add_sub_cancel, show i + d + 1 - i = d + 1 by rw [Nat.add_assoc, Nat.add_sub_cancel_left], Nat.add_sub_cancel, Nat.add_sub_cancel_left, Int.pow_succ, Int.mul_comm (256 ^ d) 256, ← Int.ediv_ediv_of_nonneg (by decide), high _ _ _ (by decide) hb0 hb1]
    rw [List.length_append, List.length_singleton, List.range_succ, List.map_append, List.map_append, bfold_snoc, ← ih, e, List.map_singleton, List.map_singleton, Nat.add_sub_cancel, Nat.sub_self, Int.pow_zero, Int.ediv_one, Int.add_comm, Int.add_mul_emod_self_right, Int.emod_eq_of_lt hb0 hb1]
theorem oct_fig (l : List UInt8) : octF (figF l) = l.map fun b => (b.toNat : Int) := by
  have hs : 6 * ((8 * l.length + 5) / 6) - 8 * l.length < 6 := by omega
  have hle : 8 * l.length ≤ 6 * ((8 * l.length + 5) / 6) := by omega
  have hW : wfold (figF l) = bfold l * 2 ^ (6 * ((8 * l.length + 5) / 6) - 8 * l.length) := by
    unfold figF
    refine wfold_digits ((8 * l.length + 5) / 6) _ (Int.mul_nonneg (bfold_nonneg l) (Int.le_of_lt (Int.pow_pos (by decide)))) ?_
    have h1 := bfold_lt l
    rw [pow256] at h1
    rw [pow64]
    have : (2 : Int) ^ (6 * ((8 * l.length + 5) / 6)) = 2 ^ (8 * l.length) * 2 ^ (6 * ((8 * l.length + 5) / 6) - 8 * l.length) := by
      rw [← Int.pow_add]; congr 1; omega
    rw [this]
    exact Int.mul_lt_mul_of_pos_right h1 (Int.pow_pos (by decide))
  rw [← bytes_digits]
  unfold octF
  rw [figF_length]
  have e : 6 * ((8 * l.length + 5) / 6) / 8 = l.length := by omega
  rw [e]
  refine List.map_congr_left fun i hi => ?_
  unfold octE
  rw [figF_length, hW, e, shift_div _ _ _ (Nat.le_refl _), Nat.sub_self, Int.pow_zero, Int.ediv_one]
theorem byteArr_back (O : Array UInt8) : byteArr (O.toList.map fun b => (b.toNat : Int)) = O := by
  unfold byteArr
  rw [List.map_map]
  have : ((fun n : Int => n.toNat.toUInt8) ∘ fun b : UInt8 => (b.toNat : Int)) = id := by
    funext b
    show (b.toNat : Int).toNat.toUInt8 = b
    simp
  rw [this, List.map_id]
set_option maxRecDepth 100000
def marksL : List Nat := [34, 39, 38, 60, 62, 10, 13, 9]
/-- the octets that are due -/
def dueF (f : Int) : Int := if f = 62 then 63 else f
def dueB (m1 m2 : Nat) (O : Array UInt8) : Array UInt8 := if m1 = m2 then byteArr (octF ((figF O.toList).map dueF)) else O
/-- the sign of a figure, as a code -/
def sgC (m1 m2 : Nat) (f : Int) : Nat := if f = 62 then m1 else if f = 63 then m2 else (b64I f).toNat
/-- a figure as it is read back -/
def bakF (m1 m2 : Nat) (f : Int) : Int := if m1 = m2 then dueF f else f

theorem tab_two (a b u v c : UInt8) : (transTab [a, b] [u, v]).getD c.toNat c = if c = b then v else if c = a then u else c := by
  have hc := c.toNat_lt
  have hs : ((Array.range 256).map (·.toUInt8)).size = 256 := by simp
  have h0 : ((Array.range 256).map (·.toUInt8)).getD c.toNat c = c := by
    simp [Array.getD]
  unfold transTab
  show (((((Array.range 256).map (·.toUInt8)).setIfInBounds a.toNat u).setIfInBounds b.toNat v)).getD c.toNat c = _
  have ha := a.toNat_lt
  have hb := b.toNat_lt
  have e : ∀ (t : Array UInt8) (x w : UInt8), t.size = 256 → (t.setIfInBounds x.toNat w).getD c.toNat c = if c = x then w else t.getD c.toNat c := by
    intro t x w ht
    have hx := x.toNat_lt
    rw [Array.getD_eq_getD_getElem?, Array.getD_eq_getD_getElem?, Array.getElem?_setIfInBounds]
    by_cases h : c = x
    · subst h; rw [if_pos rfl, if_pos rfl, if_pos (by omega)]; rfl
    · rw [if_neg h, if_neg fun q => h (UInt8.toNat_inj.mp q).symm]
  rw [e _ b v (by simp), e _ a u hs, h0]
theorem transB_two (a b u v : UInt8) (l : Array UInt8) : transB #[a, b] #[u, v] l = l.map fun c => if c = b then v else if c = a then u else c := by
  unfold transB
  congr 1
  funext c
  exact tab_two a b u v c

theorem marks_lt : ∀ c ∈ marksL, c < 128 := by decide
theorem mark_code : ∀ f < 62, ∀ m ∈ marksL, (b64I ((f : Nat) : Int)).toNat ≠ m := by decide +kernel
theorem mark_pad : ∀ m ∈ marksL, m ≠ 61 := by decide
theorem code_lt : ∀ f < 64, (b64I ((f : Nat) : Int)).toNat < 128 := by decide +kernel
theorem code_nn : ∀ f < 64, 0 ≤ b64I ((f : Nat) : Int) := by decide +kernel
theorem plain_item : ∀ f < 62, Txt.item plainT ((f : Nat) : Int) = sgl (b64I ((f : Nat) : Int)).toNat := by decide +kernel
theorem enc_code : ∀ f < 62, (b64I ((f : Nat) : Int)).toNat.toUInt8 ≠ 43 ∧ (b64I ((f : Nat) : Int)).toNat.toUInt8 ≠ 47 := by decide +kernel
theorem u8_small {n : Nat} (h : n < 128) : n.toUInt8.toNat = n := by
  show n % 256 = n
  omega
theorem fig_nat {f : Int} (h0 : 0 ≤ f) (h1 : f < 64) : ∃ k : Nat, f = (k : Int) ∧ k < 64 := ⟨f.toNat, by omega, by omega⟩
/-- one byte of the writing -/
theorem enc_sign {m1 m2 : Nat} {f : Int} (h1 : m1 ∈ marksL) (h2 : m2 ∈ marksL) (hf0 : 0 ≤ f) (hf1 : f < 64) :
    (fun c : UInt8 => if c = 47 then m2.toUInt8 else if c = 43 then m1.toUInt8 else c) (b64I f).toNat.toUInt8 = (sgC m1 m2 f).toUInt8 := by
  obtain ⟨k, rfl, hk⟩ := fig_nat hf0 hf1
  dsimp only
  by_cases hk2 : k < 62
  · obtain ⟨e1, e2⟩ := enc_code k hk2
    unfold sgC
    rw [if_neg e2, if_neg e1, if_neg (by omega), if_neg (by omega)]
  · have : k = 62 ∨ k = 63 := by omega
    rcases this with rfl | rfl
    · rfl
    · rfl
theorem sgC_lt {m1 m2 : Nat} {f : Int} (h1 : m1 ∈ marksL) (h2 : m2 ∈ marksL) (hf0 : 0 ≤ f) (hf1 : f < 64) : sgC m1 m2 f < 128 := by
  obtain ⟨k, rfl, hk⟩ := fig_nat hf0 hf1
  unfold sgC
  split
  · exact marks_lt _ h1
  · split
    · exact marks_lt _ h2
    · exact code_lt k hk
/-- one byte read back -/
theorem dec_sign {m1 m2 : Nat} {f : Int} (h1 : m1 ∈ marksL) (h2 : m2 ∈ marksL) (hf0 : 0 ≤ f) (hf1 : f < 64) :
    (((fun c : UInt8 => if c = m2.toUInt8 then (47 : UInt8) else if c = m1.toUInt8 then 43 else c) (sgC m1 m2 f).toUInt8).toNat : Int) = b64I (bakF m1 m2 f) := by
  obtain ⟨k, rfl, hk⟩ := fig_nat hf0 hf1
  have inj : ∀ {a b : Nat}, a < 128 → b < 128 → (a.toUInt8 = b.toUInt8 ↔ a = b) := by
    intro a b ha hb
    constructor
    · intro e
      have := congrArg UInt8.toNat e
      rw [u8_small ha, u8_small hb] at this; exact this
    · rintro rfl; rfl
  have l1 := marks_lt _ h1
  have l2 := marks_lt _ h2
  dsimp only
  by_cases hk2 : k < 62
  · have es : sgC m1 m2 (k : Int) = (b64I (k : Int)).toNat := by unfold sgC; rw [if_neg (by omega), if_neg (by omega)]
    have eb : bakF m1 m2 (k : Int) = (k : Int) := by
      unfold bakF dueF
      split
      · exact if_neg (by omega)
      · rfl
    have hl := code_lt k hk
    rw [es, eb, if_neg fun q => mark_code k hk2 m2 h2 ((inj hl l2).mp q), if_neg fun q => mark_code k hk2 m1 h1 ((inj hl l1).mp q), u8_small hl]
    exact Int.toNat_of_nonneg (code_nn k hk)
  · have : k = 62 ∨ k = 63 := by omega
    rcases this with rfl | rfl
    · have es : sgC m1 m2 ((62 : Nat) : Int) = m1 := rfl
      rw [es]
      by_cases e : m1 = m2
      · rw [if_pos (by rw [e]), show bakF m1 m2 ((62 : Nat) : Int) = 63 by unfold bakF; rw [if_pos e]; rfl]; rfl
      · rw [if_neg fun q => e ((inj l1 l2).mp q), if_pos rfl, show bakF m1 m2 ((62 : Nat) : Int) = 62 by unfold bakF; rw [if_neg e]; rfl]; rfl
    · have es : sgC m1 m2 ((63 : Nat) : Int) = m2 := rfl
      rw [es, if_pos rfl, show bakF m1 m2 ((63 : Nat) : Int) = 63 by unfold bakF dueF; split <;> rfl]; rfl
theorem sign_item {P : Str} {m1 m2 : Nat} {f : Int} (hP : P = ⟨#[m1, m2]⟩) (hf0 : 0 ≤ f) (hf1 : f < 64) : signT P f = sgl (sgC m1 m2 f) := by
  subst hP
  obtain ⟨k, rfl, hk⟩ := fig_nat hf0 hf1
  unfold signT
  by_cases hk2 : k < 62
  · have es : sgC m1 m2 (k : Int) = (b64I (k : Int)).toNat := by unfold sgC; rw [if_neg (by omega), if_neg (by omega)]
    rw [if_pos (by omega), plain_item k hk2, es]
  · rw [if_neg (by omega)]
    have : k = 62 ∨ k = 63 := by omega
    rcases this with rfl | rfl
    · rfl
    · rfl
theorem pad_all : ∀ L < 13, padOf L = ((-(((8 * L + 5) / 6 : Nat) : Int)) % 4).toNat ∧ padOf L < 3 ∧ ((8 * L + 5) / 6 + padOf L) % 4 = 0 ∧ (8 * L + 5) / 6 + padOf L ≤ 16 := by decide +kernel
theorem eq_sgl : Str.ofString "=" = sgl 61 := by decide +kernel
theorem bakF_in {m1 m2 : Nat} {f : Int} (h0 : 0 ≤ f) (h1 : f < 64) : 0 ≤ bakF m1 m2 f ∧ bakF m1 m2 f < 64 := by
  unfold bakF dueF
  split
  · split <;> omega
  · omega
theorem wr_gen {O : Array UInt8} {P : Str} {m1 m2 : Nat} (hO3 : 3 ≤ O.size) (hO12 : O.size ≤ 12) (h1 : m1 ∈ marksL) (h2 : m2 ∈ marksL) (hP : P = ⟨#[m1, m2]⟩) :
    ∃ (Wb : Array UInt8) (cs : List Nat), transB #[43, 47] (P.cps.map (·.toUInt8)) (byteArr (b2aOut O.toList)) = Wb ∧ (∀ c ∈ Wb, c < 128) ∧ 0 < Wb.size ∧ Wb.size ≤ 16777216 ∧ (⟨Wb.map (·.toNat)⟩ : Str) = ⟨cs.toArray⟩ ∧
      (∀ c ∈ cs, c < 128) ∧ cs.length ≤ 16 ∧ signsT P (figF O.toList) = cs.map sgl ∧
      ∃ (fs : List Int) (p : Nat), KBw.bInts (transB (P.cps.map (·.toUInt8)) #[43, 47] (cs.toArray.map (·.toUInt8))) = enc fs p ∧ (∀ f ∈ fs, 0 ≤ f ∧ f < 64) ∧ fs.length ≤ 16 ∧ p < 3 ∧ (fs.length + p) % 4 = 0 ∧ byteArr (a2bRun fs).1 = dueB m1 m2 O := by
  have hOl : O.toList.length = O.size := Array.length_toList
  have hin := figF_in O.toList
  have hfl := figF_length O.toList
  rw [hOl] at hfl
  have hpc : P.cps.map (·.toUInt8) = #[m1.toUInt8, m2.toUInt8] := by subst hP; simp
  obtain ⟨hpl, hp3, hp4, hp16⟩ := pad_all O.size (Nat.lt_succ_of_le hO12)
  rw [← hfl] at hp4 hp16
  have hcsl : ∀ c ∈ (figF O.toList).map (sgC m1 m2) ++ List.replicate (padOf O.size) 61, c < 128 := by
    intro c hc
    rcases List.mem_append.mp hc with hc | hc
    · obtain ⟨f, hf, rfl⟩ := List.mem_map.mp hc
      exact sgC_lt h1 h2 (hin f hf).1 (hin f hf).2
    · rw [(List.mem_replicate.mp hc).2]; decide
  have hW : transB #[43, 47] (P.cps.map (·.toUInt8)) (byteArr (b2aOut O.toList)) = (((figF O.toList).map (sgC m1 m2) ++ List.replicate (padOf O.size) 61).map (fun c : Nat => c.toUInt8)).toArray := by
    rw [hpc, transB_two, b2a_enc, hOl]
    unfold byteArr enc
    rw [List.map_toArray]
    congr 1
    simp only [List.map_append, List.map_map, List.map_replicate]
    congr 1
    · refine List.map_congr_left fun f hf => ?_
      exact enc_sign h1 h2 (hin f hf).1 (hin f hf).2
  refine ⟨_, (figF O.toList).map (sgC m1 m2) ++ List.replicate (padOf O.size) 61, hW, ?_, ?_, ?_, ?_, hcsl, ?_, ?_, (figF O.toList).map (bakF m1 m2), padOf O.size, ?_, ?_, ?_, hp3, ?_, ?_⟩
  · intro c hc
    rw [List.mem_toArray] at hc
    obtain ⟨k, hk, rfl⟩ := List.mem_map.mp hc
    rw [UInt8.lt_iff_toNat_lt, u8_small (hcsl k hk)]
    exact hcsl k hk
  · rw [List.size_toArray, List.length_map, List.length_append, List.length_map, List.length_replicate, hfl]; omega
  · rw [List.size_toArray, List.length_map, List.length_append, List.length_map, List.length_replicate]; omega
  · refine str_ext ?_
    show (Array.map _ _).toList = _
    rw [Array.toList_map]
    show ((List.map _ _).map _) = _
    rw [List.map_map]
    refine Eq.trans (List.map_congr_left (g := id) fun c hc => ?_) (List.map_id _)
    exact u8_small (hcsl c hc)
  · rw [List.length_append, List.length_map, List.length_replicate]; exact hp16
  · unfold signsT
    rw [List.map_append, List.map_map, List.map_replicate, eq_sgl]
    congr 1
    · exact List.map_congr_left fun f hf => sign_item hP (hin f hf).1 (hin f hf).2
    · congr 1
      rw [hfl, hpl]
  · rw [hpc, transB_two]
    unfold enc KBw.bInts
    rw [Array.toList_map, Array.toList_map]
    show (((List.map _ _).map _).map _) = _
    simp only [List.map_append, List.map_map, List.map_replicate]
    congr 1
    · refine List.map_congr_left fun f hf => ?_
      exact dec_sign h1 h2 (hin f hf).1 (hin f hf).2
    · congr 1
      have e : ∀ m ∈ marksL, (61 : Nat).toUInt8 ≠ m.toUInt8 := by decide
      show (((if (61 : Nat).toUInt8 = m2.toUInt8 then (47 : UInt8) else if (61 : Nat).toUInt8 = m1.toUInt8 then 43 else (61 : Nat).toUInt8)).toNat : Int) = 61
      rw [if_neg (e _ h2), if_neg (e _ h1)]; rfl
  · intro f hf
    obtain ⟨g, hg, rfl⟩ := List.mem_map.mp hf
    exact bakF_in (hin g hg).1 (hin g hg).2
  · rw [List.length_map]; omega
  · rw [List.length_map]; exact hp4
  · rw [a2b_oct]
    · unfold dueB
      by_cases e : m1 = m2
      · rw [if_pos e]
        have : bakF m1 m2 = dueF := by funext f; unfold bakF; rw [if_pos e]
        rw [this]
      · rw [if_neg e]
        have : (figF O.toList).map (bakF m1 m2) = figF O.toList := by
          refine Eq.trans (List.map_congr_left (g := id) fun f _ => ?_) (List.map_id _)
          show bakF m1 m2 f = f
          unfold bakF; rw [if_neg e]
        rw [this, oct_fig, byteArr_back]
    · intro f hf
      obtain ⟨g, hg, rfl⟩ := List.mem_map.mp hf
      exact bakF_in (hin g hg).1 (hin g hg).2
end SP
section SE
theorem words22 : True := by
  k_with_none
  k_with "my fill" => (dsimp only [ConV, ConG]; k_fill; w_on)
  k_with "my enter" => (refine wpAny_call ?_; w_strict (k_dflt first
    | (refine' enter_plain ?zq22x1k1 ?zq22x1k2 ?zq22x1k3 ?zq22x1k5 ?zq22x1kA ?zq22x1kF ?zq22x1kK ?zq22x1k6 ?zq22x1k7 ?zq22x1k8 ?zq22x1k9 ?zq22x1kB ?_ ?zq22x1c2 ?zq22x1c3 ?zq22x1c4 ?zq22x1c5; (case zq22x1kA => exact rfl); (case zq22x1kF => exact rfl); (case zq22x1kK => assumption); (case zq22x1k1 => k_asm); (case zq22x1k2 => k_asm); (case zq22x1k3 => k_asm); (case zq22x1k5 => k_asm); (case zq22x1k6 => k_is); (case zq22x1k7 => k_is); (case zq22x1k8 => ktr_room); (case zq22x1k9 => first | exact BindsTo.of_eq rfl | exact binds_K (by k_in) rfl (by k_is) rfl rfl rfl | fail "k_enter: no rule for these arguments"); (case zq22x1c5 => decide); (case zq22x1kB => exact locs rfl); (case zq22x1c2 => exact rfl); (case zq22x1c3 => exact rfl); (case zq22x1c4 => exact rfl); k_whole; intro L' h' F' N' B' X' T'; (try dsimp only); (try k_lift B'); (try k_fold))
    | (refine' enter_cells ?zq22x1k1 ?zq22x1k2 ?zq22x1k3 ?zq22x1k5 ?zq22x1kA ?zq22x1kF ?zq22x1kK ?zq22x1k6 ?zq22x1k7 ?zq22x1k8 ?zq22x1k9 ?zq22x1kB ?zq22x1kD ?_ ?zq22x1c2 ?zq22x1c3 ?zq22x1c4; (case zq22x1kA => exact rfl); (case zq22x1kF => exact rfl); (case zq22x1kK => assumption); (case zq22x1k1 => k_asm); (case zq22x1k2 => k_asm); (case zq22x1k3 => k_asm); (case zq22x1k5 => k_asm); (case zq22x1k6 => k_is); (case zq22x1k7 => k_is); (case zq22x1k8 => ktr_room); (case zq22x1k9 => first | exact BindsTo.of_eq rfl | exact binds_K (by k_in) rfl (by k_is) rfl rfl rfl | fail "k_enter: no rule for these arguments"); (case zq22x1kB => exact rfl); (case zq22x1kD => decide +kernel); (case zq22x1c2 => exact rfl); (case zq22x1c3 => exact rfl); (case zq22x1c4 => exact rfl); k_whole; intro L' h' tk' cells' F' N' Y' B' X' T'; k_cells Y'; (try simp only [List.cons_append, List.nil_append] at N'); (try dsimp only); (try k_lift B'); (try k_fold))))
  k_with "my end" => ((try dsimp only); (try k_unfold); (try dsimp only))
  k_with "binaryOp Mult int int" => (k_here; (with_reducible refine mul2pow ?zq22x3kfd ?_); (case zq22x3kfd => omega))
  k_with "binaryOp FloorDiv int int" => (k_here; first
    | ((with_reducible refine fdiv256 ?zq22x4kfd ?_); (case zq22x4kfd => omega))
    | ((with_reducible refine fdiv64 ?zq22x4kfd ?_); (case zq22x4kfd => omega)))
  k_with "call type:type" => (k_here; (with_reducible show wpAny _ _ (call _ [Value.bytes _ _]) _ _ _); refine call_type_of (Tx := "bytes") rfl (by decide +kernel) ?_)
  k_with "getMethod str" => (k_here; with_reducible refine getm_encode ?_)
  k_with "getMethod bytes" => (k_here; with_reducible refine getm_translate ?_)
  k_with "call builtin:str.encode" => (k_here; k_dflt (refine call_encode (by assumption) (by first | assumption | omega) ?_); intro _ _)
  k_with "call builtin:bytes.translate" => (k_here; k_dflt (refine call_translate ?zq22x9kt ?zq22x9kz ?_); (case zq22x9kt => exact transTab_size _ _); (case zq22x9kz => first | assumption | omega); intro _ _)
  k_with "getMethod type:bytes" => (k_here; refine' method_type ?zq22x10F ?zq22x10X ?zq22x10m (by decide +kernel) ?zq22x10e ?zq22x10h ?_; (case zq22x10F => k_asm); (case zq22x10X => k_asm); (case zq22x10m => (show typeOf (.type "bytes") = _; first | rfl | kernel_rfl)); (case zq22x10e => k_dflt k_is); (case zq22x10h => k_handed))
  k_with "call builtin:bytes.maketrans" => (k_here; k_dflt (refine call_maketransA ?zq22x11ke ?_); (case zq22x11ke => first | assumption | rfl | omega | simp_all); intro _ _)
  k_with "call type:bytes" => (k_here; (with_reducible show wpAny _ _ (call (Value.type _) [Value.ref _]) _ _ _); k_dflt (refine' bytes_K ?zq22x12F ?zq22x12N ?zq22x12l ?zq22x12i ?zq22x12r ?zq22x12z ?zq22x12h ?_; (case zq22x12F => k_asm); (case zq22x12N => k_asm); (case zq22x12l => exact News.isList (by k_asm) (by k_mem)); (case zq22x12i => assumption); (case zq22x12r => assumption); (case zq22x12z => ((have hiz := IntsAre.length (by assumption)); rw [sizeLine_eq]; omega)); (case zq22x12h => with_unfolding_all rfl); k_whole); intro h' t' k' F' N' hB'; clear hB'; (try k_sweep))
  k_with "storeName" => (k_here; first
    | ((with_reducible show wpAny _ _ (storeName _ _ (Value.int _ (Shared.toks _))) _ _ _); refine st_int ?_; intro tkq)
    | ((with_reducible show wpAny _ _ (storeName _ _ (Value.str _ (Shared.toks _))) _ _ _); refine st_str ?_; intro tkq)
    | ((with_reducible show wpAny _ _ (storeName _ _ (Value.bytes _ (Shared.toks _))) _ _ _); refine st_bytes ?_; intro tkq))
  k_with "eval ListComp" => (k_here; (with_reducible show wpAny _ _ (eval (Expr.ListComp _ [⟨_, Expr.Call _ (_ :: _ :: _ :: []) _ _, _, _⟩] _ _) _) _ _ _); k_dflt (refine listcomp_down (_F₀ := by k_asm) (by with_unfolding_all rfl) (by decide) (by rfl) (by decide) (by rfl) ?_))
  trivial
set_option maxRecDepth 100000
set_option maxHeartbeats 8000000
/-- the walk stops here -/
def Held (P : Prop) : Prop := P
theorem Held.mk {P : Prop} (h : Held P) : P := h
theorem Held.of {P : Prop} (h : P) : Held P := h
theorem words23 : True := by
  k_with "execs cons" => (k_here; refine' gen_pos2 ?zq23x0hpos ?_; (case zq23x0hpos => first | exact Nat.succ_pos _ | with_unfolding_all exact Nat.succ_pos _); intro tkp htkp)
  k_with "execs nil" => (k_here; refine' gen_pos2 ?zq23x1hpos ?_; (case zq23x1hpos => first | exact Nat.succ_pos _ | with_unfolding_all exact Nat.succ_pos _); intro tkp htkp)
  k_with "eval ListComp" => (k_here; k_dflt (refine LCg.ListComp_U (F₀ := by k_asm) (by with_unfolding_all rfl) (by decide) (by rfl) (by decide) (by rfl) ?_))
  k_with "CompSrc" => fail "mine"
  k_with "call ref" => refine Held.mk ?_
  k_with "call ref" => (k_here; (k_dflt (refine' use_V (c_figure _ _ _) ?zq23x5kB ?zq23x5kF ?zq23x5kN ?zq23x5kX ?zq23x5kT ?zq23x5kk ?zq23x5kD ?zq23x5kU ?zq23x5kp ?_)); (case zq23x5kp => trivial); (case zq23x5kB => k_asm); (case zq23x5kF => k_asm); (case zq23x5kN => k_asm); (case zq23x5kX => k_asm); (case zq23x5kT => k_asm); (case zq23x5kk => first | exact rfl | assumption); (case zq23x5kD => ktr_room); (case zq23x5kU => ktr_units); intro t9 h9 tk9 ht9 F9 N9; (try dsimp only); (try k_sweep))
  k_with "my call" => ((case kB => k_asm); (case kF => k_asm); (case kN => k_asm); (case kX => k_asm); (case kT => k_asm); (case kk => first | exact rfl | assumption); (case kD => ktr_room); (case kU => ktr_units))
  trivial

def LawEnd (h₀ : Heap) (L : Addr) (s : Shared) (fl : Flow) (s' : Shared) : Prop := fl = .ret (.bool true) ∧ (∃ m, Fr h₀ L s'.heap m) ∧ s'.gens = s.gens ∧ s'.os = s.os
theorem law_ends {M : Model} {A : Around} {t : Sem Flow} {s : Shared} {Q : Flow → Shared → Prop} {E : Value → Shared → Prop} {h₀ : Heap} {L : Addr} {m : Str → Option Value} (_ : Fr h₀ L s.heap m) (h : wpAny M A t (LawEnd h₀ L s) (fun _ _ => False) s) (k : ∀ fl s', LawEnd h₀ L s fl s' → Q fl s') : wpAny M A t Q E s :=
  wpAny_mono h k fun _ _ e => e.elim
theorem figs0_gen {ws : List Value} {xs : List Int} (h : IntsAre ws ([62, 3, 63, 0] ++ (xs.take 12).map fun k => if k % 4 < 2 then 62 + k % 4 else k / 4 % 64)) :
    ∃ fs, IntsAre ws fs ∧ 4 ≤ fs.length ∧ fs.length ≤ 16 ∧ ∀ n ∈ fs, 0 ≤ n ∧ n < 64 := by
  refine ⟨_, h, by simp, by simp; omega, ?_⟩
  intro n hn
  rcases List.mem_append.mp hn with hn | hn
  · simp at hn; omega
  · obtain ⟨k, _, rfl⟩ := List.mem_map.mp hn
    split <;> omega
theorem byteArr_gen {fs : List Int} (h4 : 4 ≤ fs.length) (h16 : fs.length ≤ 16) : ∃ O, byteArr (octF fs) = O ∧ 3 ≤ O.size ∧ O.size ≤ 12 := by
  refine ⟨_, rfl, ?_, ?_⟩
  · rw [byteArr_size, octF_length]; omega
  · rw [byteArr_size, octF_length]; omega
theorem use_figs {w : World} {O : Array UInt8} {t : Tok} (hO : O.size ≤ 12) {mean : ExcName → Option Value} {mg mb : Str → Option Value} {dp un : Nat} {gd : Option (List Code)} {cn : Str} {cs : Scope} {a : Addr} {ccd : Value} {cl : List (Str × Addr)} {outer : List Env} {A₀ : Around} {base h₀ : Heap} {L : Addr} {m : Str → Option Value} {s : Shared} {Q E : Value → Shared → Prop} {news : List (Addr × Obj)}
    (B : Below A₀ base outer h₀) (F : Fr h₀ L s.heap m) (N : News h₀ L s.heap news) (X : (hd.heap_39 w.params).In h₀) (T : TopC mean mg mb h₀) (hk : cs.kind = .function) (hD : dp + 1 < recursionLimit) (hU : un + 16 < cLine)
    (ret : ∀ d ys n h' tk', s.toks ≤ tk' → Fr h₀ L h' m → News h₀ L h' ((d, W.listOf ys.toArray n) :: news) → IntsAre ys (figF O.toList) → Q (.ref d) { s with heap := h', toks := tk' }) :
    wpAny (model PySem.Challenge.rw_il0037_01.row.prog w) (ktrTop dp un gd cn cs L a ccd cl outer) (call (.ref 153) [.bytes O t] []) Q E s :=
  use_G (c_figures w O t hO) B F N X T hk hD hU trivial fun v h' tk' ht kp F' N' ⟨d, ys, n, e, hg, hf, hi⟩ => by
    subst e
    exact ret d ys n h' tk' ht F' (news_add N' F hg hf) hi
theorem words24 : True := by
  k_with "subscriptTail" => (k_here; (with_reducible show wpAny _ _ (subscriptTail _ _ (Value.str _ _) (Value.int _ _)) _ _ _); refine Held.mk ?_)
  k_with "subscriptTail Name BinOp str int" => (k_here; (with_reducible show wpAny _ _ (subscriptTail _ _ (Value.str _ _) (Value.int _ _)) _ _ _); refine Held.mk ?_)
  trivial
theorem News.none {h₀ h : Heap} {L : Addr} {news : List (Addr × Obj)} (_ : News h₀ L h news) : News h₀ L h [] := News.nil
theorem marks_cps : (Str.ofString "\"'&<>\n\x0d\t").cps = marksL.toArray := by decide +kernel
theorem item_mark {prog : Program} {w : World} {A : Around} {E : Value → Shared → Prop} {s : Shared} {value slice : PySem.Expr} {t u : Tok} {i : Int} {Q : Value → Shared → Prop} (h0 : 0 ≤ i) (h1 : i < 8)
    (h : ∀ c, c ∈ marksL → Q (.str ⟨#[c]⟩ s.toks) { s with toks := s.toks + 1 })
    (hs : subscripted slice false (.str (Str.ofString "\"'&<>\n\x0d\t") t) (.int i u) = operate [.str (Str.ofString "\"'&<>\n\x0d\t") t, .int i u] (getItem (.str (Str.ofString "\"'&<>\n\x0d\t") t) (.int i u)) := by with_unfolding_all rfl)
    (ht : ∀ r, letTemporaryGo value (.str (Str.ofString "\"'&<>\n\x0d\t") t) r = pure () := by intro _; with_unfolding_all rfl) :
    wpAny (model prog w) A (subscriptTail value slice (.str (Str.ofString "\"'&<>\n\x0d\t") t) (.int i u)) Q E s := by
  have hl : (Str.ofString "\"'&<>\n\x0d\t").length = 8 := by decide +kernel
  refine KXi.item (n := 8) hl (by omega) (by omega) (by decide) ?_ hs ht
  intro _
  rw [item_meets ⟨h0, by rw [hl]; omega⟩, marks_cps]
  refine h _ ?_
  have hi : i.toNat < 8 := by omega
  have h8 : ∀ j < 8, marksL.toArray.getD j 0 ∈ marksL := by decide
  exact h8 _ hi
theorem fmod8 (i : Int) : 0 ≤ i.fmod 8 ∧ i.fmod 8 < 8 := by
  rw [Int.fmod_eq_emod_of_nonneg _ (by decide : (0 : Int) ≤ 8)]; omega
theorem words25 : True := by
  k_with "subscriptTail Name BinOp str int" => (k_here; (refine item_mark (fmod8 _).1 (fmod8 _).2 ?_); intro cm hcm)
  trivial
/-- the dict of further references, whichever way -/
def FurEnd (w : World) (h₀ : Heap) (L : Addr) (m : Str → Option Value) (news : List (Addr × Obj)) (s : Shared) (v : Value) (s' : Shared) : Prop :=
  ∃ d es n h' tk, v = .ref d ∧ s' = { s with heap := h', toks := tk } ∧ 0 < tk ∧ Fr h₀ L h' m ∧ News h₀ L h' ((d, dObj w es n) :: news) ∧ (d == sysModules) = false ∧ (∀ p ∈ news, p.1 < d) ∧ (textsOf es = [] ∨ textsOf es = furP) ∧ ∀ e ∈ es, EntOk e
theorem fur_lit {w : World} {A : Around} {E : Value → Shared → Prop} {s : Shared} {env : Env} {pos : Pos} {h₀ : Heap} {L : Addr} {mm : Str → Option Value} {news : List (Addr × Obj)} {keys : List (Option Expr)} {values : List Expr} {Q : Value → Shared → Prop} (F : Fr h₀ L s.heap mm) (N : News h₀ L s.heap news) (cs : List (Str × Str))
    (hz : (evalEachOpt keys env).zip ((evalEach values env).map fun v => do let x ← v; standAt pos; pure x) = (litP env pos cs).map fun p => (some p.1, p.2)) (hbig : h₀.NoLimit) (hpos : 0 < s.toks)
    (hne : cs ≠ []) (hlen : cs.length ≤ 15) (hnd : (cs.map (·.1)).Nodup) (hok : ∀ c ∈ cs, (c.1 == c.2) = false ∧ c.2.length ≤ 14)
    (h : ∀ d es h' n k, s.toks ≤ k → Fr h₀ L h' mm → News h₀ L h' ((d, dObj w es n) :: news) → textsOf es = cs → (∀ e ∈ es, EntOk e) → (d == sysModules) = false → (∀ p ∈ news, p.1 < d) → Q (.ref d) { s with heap := h', toks := k }) :
    wpAny (model PySem.Challenge.rw_il0037_01.row.prog w) A (eval (.Dict keys values pos) env) Q E s :=
  lit_display F N cs hz hne hlen hnd (modules_low hbig) fun d h' n k hk F' N' hs hle =>
    h d _ h' n k (by omega) F' N' (texts_litE _ _) (litE_ok cs _ hpos hok) hs fun p hp => Nat.lt_of_lt_of_le (Heap.lt_size (N p hp).1) hle
theorem fur_empty {w : World} {A : Around} {E : Value → Shared → Prop} {s s0 : Shared} (hs0 : ∀ h k, ({ s with heap := h, toks := k } : Shared) = { s0 with heap := h, toks := k }) {env : Env} {pos : Pos} {h₀ : Heap} {L : Addr} {mm : Str → Option Value} {news : List (Addr × Obj)} (F : Fr h₀ L s.heap mm) (N : News h₀ L s.heap news) (hbig : h₀.NoLimit) (hpos : 0 < s.toks) :
    wpAny (model PySem.Challenge.rw_il0037_01.row.prog w) A (eval (.Dict [] [] pos) env) (FurEnd w h₀ L mm news s0) E s :=
  wpAny_Dict_empty ⟨_, [], 0, _, _, rfl, hs0 _ _, hpos, F.push _, News.push F N _, F.notModules (modules_low hbig), fun p hp => Heap.lt_size (N p hp).1, .inl rfl, by simp⟩
theorem fur_some {w : World} {A : Around} {E : Value → Shared → Prop} {s s0 : Shared} (hs0 : ∀ h k, ({ s with heap := h, toks := k } : Shared) = { s0 with heap := h, toks := k }) {env : Env} {pos : Pos} {h₀ : Heap} {L : Addr} {mm : Str → Option Value} {news : List (Addr × Obj)} {keys : List (Option Expr)} {values : List Expr} (F : Fr h₀ L s.heap mm) (N : News h₀ L s.heap news)
    (hz : (evalEachOpt keys env).zip ((evalEach values env).map fun v => do let x ← v; standAt pos; pure x) = (litP env pos furP).map fun p => (some p.1, p.2)) (hbig : h₀.NoLimit) (hpos : 0 < s.toks) :
    wpAny (model PySem.Challenge.rw_il0037_01.row.prog w) A (eval (.Dict keys values pos) env) (FurEnd w h₀ L mm news s0) E s :=
  fur_lit F N furP hz hbig hpos (by simp [furP]) (by decide) (by decide) (by decide) fun d es h' n k hk F' N' he hok hs hlt => ⟨d, es, n, h', k, rfl, hs0 _ _, by omega, F', N', hs, hlt, .inr he, hok⟩
theorem pair_gen {h₀ h : Heap} {L : Addr} {c1 c2 : Nat} {t : Tok} {mm : Str → Option Value} (h1 : c1 ∈ marksL) (h2 : c2 ∈ marksL) (F : Fr h₀ L h (fun y => if y = Str.ofString "pair" then some (.str (⟨#[c1]⟩ ++ ⟨#[c2]⟩) t) else mm y)) :
    ∃ (P : Str) (m1 m2 : Nat), m1 ∈ marksL ∧ m2 ∈ marksL ∧ P = ⟨#[m1, m2]⟩ ∧ (∀ c ∈ P.cps, c < 128) ∧ P.length = 2 ∧ P.length ≤ 16777216 ∧ Fr h₀ L h (fun y => if y = Str.ofString "pair" then some (.str P t) else mm y) := by
  refine ⟨_, c1, c2, h1, h2, rfl, ?_, rfl, by show 2 ≤ _; decide, F⟩
  intro c hc
  simp at hc
  rcases hc with rfl | rfl
  · exact marks_lt _ h1
  · exact marks_lt _ h2
theorem fur_facts {es : List Ent} (h : textsOf es = [] ∨ textsOf es = furP) : (es.map (·.1.1) ++ qcs.map (·.1)).Nodup ∧ es.length ≤ 2 ∧ ((refsP ++ textsOf es ++ quotP).map (·.1)).Nodup ∧ ∀ p ∈ textsOf es, p.2.length ≤ 16 := by
  have hl : es.length = (textsOf es).length := by simp [textsOf]
  rw [← texts_keys, hl]
  rcases h with h | h <;> rw [h]
  · refine ⟨by decide, by decide, by decide, by simp⟩
  · refine ⟨by decide, by decide, by decide, by decide⟩
def DueEnd (D : Array UInt8) (h₀ : Heap) (L : Addr) (m : Str → Option Value) (news : List (Addr × Obj)) (s : Shared) (v : Value) (s' : Shared) : Prop :=
  ∃ t h' tk, v = .bytes D t ∧ s' = { s with heap := h', toks := tk } ∧ Fr h₀ L h' m ∧ News h₀ L h' news
theorem due_join {M : Model} {A : Around} {t : Sem Value} {Q : Value → Shared → Prop} {E : Value → Shared → Prop} {s : Shared} {h₀ : Heap} {L : Addr} {mm : Str → Option Value} {news : List (Addr × Obj)} (D : Array UInt8) (_ : Fr h₀ L s.heap mm) (_ : News h₀ L s.heap news)
    (h : wpAny M A t (DueEnd D h₀ L mm news s) E s) (k : ∀ v s', DueEnd D h₀ L mm news s v s' → Q v s') : wpAny M A t Q E s := wpAny_mono h k fun _ _ e => e
theorem item_P {prog : Program} {w : World} {A : Around} {E : Value → Shared → Prop} {s : Shared} {value slice : PySem.Expr} {P : Str} {t u : Tok} {m1 m2 : Nat} {i : Int} {Q : Value → Shared → Prop} (hP : P = ⟨#[m1, m2]⟩) (h0 : 0 ≤ i) (h1 : i < 2)
    (h : Q (.str (if i = 0 then sgl m1 else sgl m2) s.toks) { s with toks := s.toks + 1 })
    (hs : subscripted slice false (.str P t) (.int i u) = operate [.str P t, .int i u] (getItem (.str P t) (.int i u)) := by with_unfolding_all rfl)
    (ht : ∀ r, letTemporaryGo value (.str P t) r = pure () := by intro _; with_unfolding_all rfl) :
    wpAny (model prog w) A (subscriptTail value slice (.str P t) (.int i u)) Q E s := by
  have hl : P.length = 2 := by subst hP; rfl
  refine KXi.item (n := 2) hl (by omega) (by omega) (by decide) ?_ hs ht
  intro _
  rw [item_meets ⟨h0, by rw [hl]; omega⟩]
  have : (⟨#[P.cps.getD i.toNat 0]⟩ : Str) = if i = 0 then sgl m1 else sgl m2 := by
    subst hP
    by_cases hi : i = 0
    · subst hi; rfl
    · have : i = 1 := by omega
      subst this; rfl
  rw [this]; exact h
theorem item_P0 {prog : Program} {w : World} {A : Around} {E : Value → Shared → Prop} {s : Shared} {value slice : PySem.Expr} {P : Str} {t u : Tok} {m1 m2 : Nat} {Q : Value → Shared → Prop} (hP : P = ⟨#[m1, m2]⟩)
    (h : Q (.str (sgl m1) s.toks) { s with toks := s.toks + 1 })
    (hs : subscripted slice false (.str P t) (.int 0 u) = operate [.str P t, .int 0 u] (getItem (.str P t) (.int 0 u)) := by with_unfolding_all rfl)
    (ht : ∀ r, letTemporaryGo value (.str P t) r = pure () := by intro _; with_unfolding_all rfl) :
    wpAny (model prog w) A (subscriptTail value slice (.str P t) (.int 0 u)) Q E s := item_P hP (by decide) (by decide) h hs ht
theorem item_P1 {prog : Program} {w : World} {A : Around} {E : Value → Shared → Prop} {s : Shared} {value slice : PySem.Expr} {P : Str} {t u : Tok} {m1 m2 : Nat} {Q : Value → Shared → Prop} (hP : P = ⟨#[m1, m2]⟩)
    (h : Q (.str (sgl m2) s.toks) { s with toks := s.toks + 1 })
    (hs : subscripted slice false (.str P t) (.int 1 u) = operate [.str P t, .int 1 u] (getItem (.str P t) (.int 1 u)) := by with_unfolding_all rfl)
    (ht : ∀ r, letTemporaryGo value (.str P t) r = pure () := by intro _; with_unfolding_all rfl) :
    wpAny (model prog w) A (subscriptTail value slice (.str P t) (.int 1 u)) Q E s := item_P hP (by decide) (by decide) h hs ht
theorem words26 : True := by
  k_with "subscriptTail Name Constant str int" => (k_here; first | refine item_P0 (by assumption) ?_ | refine item_P1 (by assumption) ?_)
  trivial
theorem dueF_in {l : List Int} {n : Int} (h : ∀ n ∈ l, 0 ≤ n ∧ n < 64) (hn : n ∈ l.map dueF) : 0 ≤ n ∧ n < 64 := by
  obtain ⟨k, hk, rfl⟩ := List.mem_map.mp hn
  have := h k hk
  unfold dueF
  split <;> omega
theorem due_a {m1 m2 : Nat} {O : Array UInt8} (h : (sgl m1 != sgl m2) = true) : dueB m1 m2 O = O := by
  unfold dueB
  rw [if_neg]
  rintro rfl
  simp at h
theorem due_b {m1 m2 : Nat} {O : Array UInt8} (h : (sgl m1 != sgl m2) = false) : dueB m1 m2 O = byteArr (octF ((figF O.toList).map dueF)) := by
  unfold dueB
  rw [if_pos]
  have : sgl m1 = sgl m2 := by simpa using h
  simpa [sgl] using this
theorem sgl_ne {a b : Nat} : (sgl a != sgl b) = decide (a ≠ b) := by
  by_cases h : a = b
  · subst h; simp
  · have : sgl a ≠ sgl b := fun e => h (by simpa [sgl] using e)
    simp [h]
theorem words27 : True := by
  k_with "eval Dict nil nil" => refine Held.mk ?_
  k_with "eval Dict" => refine Held.mk ?_
  trivial
theorem fur_join {M : Model} {A : Around} {t : Sem Value} {Q : Value → Shared → Prop} {E : Value → Shared → Prop} {s : Shared} {w : World} {h₀ : Heap} {L : Addr} {mm : Str → Option Value} {news : List (Addr × Obj)} (_ : Fr h₀ L s.heap mm) (_ : News h₀ L s.heap news)
    (h : wpAny M A t (FurEnd w h₀ L mm news s) E s) (k : ∀ v s', FurEnd w h₀ L mm news s v s' → Q v s') : wpAny M A t Q E s := wpAny_mono h k fun _ _ e => e
theorem words28 : True := by
  k_with "eval IfExp" => ((with_reducible show wpAny _ _ (eval (Expr.IfExp _ (Expr.Name _ _) _ _) _) _ _ _); refine Held.mk ?_)
  k_with "eval IfExp" => ((with_reducible show wpAny _ _ (eval (Expr.IfExp _ (Expr.Dict _ _ _) _ _) _) _ _ _); refine Held.mk ?_)
  k_with "call builtin:bytes.decode" => (k_here; k_dflt (refine call_decode ?zq28x2kda ?zq28x2kdb ?zq28x2kdc ?_); (case zq28x2kda => assumption); (case zq28x2kdb => assumption); (case zq28x2kdc => assumption); intro _ _)
  trivial
theorem back_gen {es : List Ent} {I W : Str} (he : textsOf es = backP) (h1 : ∀ i < backP.length, (replP (une2 I) (backP.take i)).length ≤ 1048576) (h2 : (replP (une2 I) backP).length ≤ 1048576) (h3 : Txt.replace (replP (une2 I) backP) (Str.ofString "&amp;") (Str.ofString "&") = W) :
    (es.map (·.1.1)).Nodup ∧ es ≠ [] ∧ es.length ≤ 64 ∧ (∀ i < es.length, (replAll (une2 I) (es.take i)).length ≤ 1048576) ∧ (replAll (une2 I) es).length ≤ 1048576 ∧ une4 I es = W := by
  have hl : es.length = backP.length := by rw [← he]; simp [textsOf]
  have e1 : ∀ i, replAll (une2 I) (es.take i) = replP (une2 I) (backP.take i) := fun i => by rw [replAll_texts, texts_take, he]
  have e2 : replAll (une2 I) es = replP (une2 I) backP := by rw [replAll_texts, he]
  refine ⟨?_, ?_, ?_, ?_, ?_, ?_⟩
  · rw [← texts_keys, he]; decide
  · rintro rfl; exact absurd he (by simp [textsOf, backP])
  · rw [hl]; decide
  · intro i hi; rw [e1]; exact h1 i (hl ▸ hi)
  · rw [e2]; exact h2
  · unfold une4; rw [e2]; exact h3
theorem use_signs {w : World} {l : Addr} {vs : List Value} {ns : List Int} {p : Str} {t : Tok} (hi : IntsAre vs ns) (hlen : ns.length ≤ 16) (hv : ∀ n ∈ ns, 0 ≤ n ∧ n < 64) (hp : p.length = 2) {mean : ExcName → Option Value} {mg mb : Str → Option Value} {dp un : Nat} {gd : Option (List Code)} {cn : Str} {cs : Scope} {a : Addr} {ccd : Value} {cl : List (Str × Addr)} {outer : List Env} {A₀ : Around} {base h₀ : Heap} {L : Addr} {m : Str → Option Value} {s : Shared} {Q E : Value → Shared → Prop} {news : List (Addr × Obj)}
    (B : Below A₀ base outer h₀) (F : Fr h₀ L s.heap m) (N : News h₀ L s.heap news) (X : (hd.heap_39 w.params).In h₀) (T : TopC mean mg mb h₀) (hk : cs.kind = .function) (hD : dp + 1 < recursionLimit) (hU : un + 16 < cLine) (hl : s.heap.IsList l vs.toArray)
    (ret : ∀ d ys n h' tk', s.toks ≤ tk' → Fr h₀ L h' m → News h₀ L h' ((d, W.listOf ys.toArray n) :: news) → StrsAre ys (signsT p ns) → Q (.ref d) { s with heap := h', toks := tk' }) :
    wpAny (model PySem.Challenge.rw_il0037_01.row.prog w) (ktrTop dp un gd cn cs L a ccd cl outer) (call (.ref 158) [.ref l, .str p t] []) Q E s :=
  use_G (c_signs w l vs ns hi hlen hv p hp t) B F N X T hk hD hU hl fun v h' tk' ht kp F' N' ⟨d, ys, n, e, hg, hf, hi⟩ => by
    subst e
    exact ret d ys n h' tk' ht F' (news_add N' F hg hf) hi
theorem sgl_short {cs : List Nat} : ∀ x ∈ cs.map sgl, x.length ≤ 16 := by
  intro x hx
  obtain ⟨c, _, rfl⟩ := List.mem_map.mp hx
  show 1 ≤ 16; decide
theorem join_sgl (cs : List Nat) : Txt.join (Str.ofString "") (cs.map sgl) = ⟨cs.toArray⟩ := by
  have h0 : (Str.ofString "") = Str.empty := by decide
  rw [show Txt.join (Str.ofString "") (cs.map sgl) = Str.join (Str.ofString "") (cs.map sgl) from StrLaws.glued_eq_join _ _, h0]
  have app : ∀ a b : Str, a ++ b = ⟨a.cps ++ b.cps⟩ := fun _ _ => rfl
  induction cs with
  | nil => rfl
  | cons c cs ih =>
    cases cs with
    | nil => rfl
    | cons d cs =>
      rw [List.map_cons] at ih ⊢
      show sgl c ++ Str.empty ++ Str.join Str.empty (sgl d :: cs.map sgl) = _
      rw [ih, app, app]
      simp [Str.empty]
theorem join_signs {prog : Program} {w : World} {A : Around} {E : Value → Shared → Prop} {s : Shared} {D : Addr} {vs : List Value} {cs : List Nat} {W : Str} {t : Tok} {Q : Value → Shared → Prop} (hl : s.heap.IsList D vs.toArray) (hS : StrsAre vs (cs.map sgl)) (hcl : cs.length ≤ 16) (hW : (⟨cs.toArray⟩ : Str) = W)
    (h : ∀ t' k, Q (.str W t') { s with toks := k }) : wpAny (model prog w) A (call (.builtin "str.join") [.str (Str.ofString "") t, .ref D]) Q E s := by
  have h1 := sum_len_le (sgl_short (cs := cs))
  refine join_listW hl hS (by decide) ?_ fun t' k => ?_
  · rw [List.length_map] at h1 ⊢; omega
  · rw [join_sgl, hW]; exact h t' k
theorem words29 : True := by
  k_with "call builtin:str.join" => (k_here; (try dsimp only [List.cons_append, List.nil_append]); k_dflt (refine' join_signs ?zq29x0jsl ?zq29x0jsi ?zq29x0jss ?zq29x0jsw ?_; (case zq29x0jsl => exact News.isList (by k_asm) (by k_mem)); (case zq29x0jsi => assumption); (case zq29x0jss => assumption); (case zq29x0jsw => assumption)); intro _ _)
  trivial
theorem law_holds : PySem.Challenge.rw_il0037_01.Holds := by
  w_on
  refine holds_law law_said fun said => ?_
  refine holds_open (q := hd.view_39) (loose := [Str.ofString "escape", Str.ofString "unescape", Str.ofString "quoteattr", Str.ofString "bytes_types", Str.ofString "a2b_base64", Str.ofString "b2a_base64", Str.ofString "b64encode", Str.ofString "b64decode"])
    (Xt := fun s => xlAt hd.view_39 [] s && recOk (RowW.records PySem.Challenge.rw_il0037_01.row.toRowW) s) (XP := XL hd.view_39 []) (Yf := Hook.obs hookC) (Ya := Hook.val hookC) (YP := Hook.says hookC) (N := 1920)
    left_ok (Hook.of hookC) (Hook.keeps hookC) (fun s e => xl_of s (Bool.and_eq_true_iff.mp e).1) XL.keeps (by rfl) (by rfl) (by rfl) (fun s e => recFacts_of (Bool.and_eq_true_iff.mp e).2) (by rfl) said (by decide +kernel) ⟨rfl, rfl, rfl, rfl, rfl, by decide +kernel⟩ ?hw ?hc
  case hw => w_witness2
  clear said
  delta hookC
  w_strict (
    k_go0
    rename Top _ _ _ _ _ _ => hTop
    (all_goals try k_fold)
    refine law_ends (by k_asm) ?_ ?_
    rotate_left
    · rename (_ = #[]) => hg0
      rintro _ s' ⟨rfl, ⟨m, hF⟩, hg', ho'⟩
      dsimp only
      refine goodW_bool hF (hg'.trans hg0) (raisesW_false ?_) ?_ ho'
      · wrow_none_raised
      · wrow_post
    try k_fold
    k_steps
    refine Held.of ?_
    rename IntsAre _ ([62, 3, 63, 0] ++ _) => hI
    obtain ⟨fs0, hI0, hlo0, hhi0, hv0⟩ := figs0_gen hI
    clear hI
    refine' use_V (c_octets _ _ _ _ hI0 hhi0 hv0) ?kB ?kF ?kN ?kX ?kT ?kk ?kD ?kU ?kp ?_
    case kp => exact News.isList (by k_asm) (by k_mem)
    walk_at "my call"
    rename Fr _ _ _ _ => oF
    rename News _ _ _ _ => oN
    intro t1 h1 tk1 ht1 F1 N1
    clear oF oN
    replace N1 := Mine.News.none N1
    obtain ⟨O, hO, hO3, hO12⟩ := byteArr_gen hlo0 hhi0
    rw [hO]
    clear hO hv0 hhi0 hlo0 hI0 fs0
    rename List Int => ns
    generalize (List.map (fun k' => Int.fmod k' 1000000) (List.take 63 ns)).sum + 8 = turn at F1
    try k_fold
    k_steps
    refine Held.of ?_
    refine' use_figs hO12 ?kB ?kF ?kN ?kX ?kT ?kk ?kD ?kU ?_
    walk_at "my call"
    rename Fr _ _ _ _ => oF
    rename News _ _ _ _ => oN
    intro fd fys fn h2 tk2 ht2 F2 N2 hIf
    clear oF oN
    try k_fold
    k_steps
    refine Held.of ?_
    rename Fr _ _ _ _ => F3
    obtain ⟨P, m1, m2, hm1, hm2, hPe, hPa, hPl, hPz, F4⟩ := pair_gen (by assumption) (by assumption) F3
    clear F3
    rename News _ _ _ _ => N4
    refine fur_join (w := by assumption) F4 N4 ?_ ?_
    · with_reducible refine IfExp_ ?_
      try k_fold
      k_steps
      · refine Held.of ?_
        refine fur_some ?fzs ?fzF ?fzN ?fzz ?fzb ?fzp
        case fzs => intro _ _; rfl
        case fzF => k_asm
        case fzN => k_asm
        case fzz => with_unfolding_all rfl
        case fzb => exact hTop.nolimit
        case fzp => exact Nat.succ_pos _
      · refine Held.of ?_
        refine fur_empty ?fzt ?fyF ?fyN ?fyb ?fyp
        case fzt => intro _ _; rfl
        case fyF => k_asm
        case fyN => k_asm
        case fyb => exact hTop.nolimit
        case fyp => exact Nat.succ_pos _
    rintro v s' ⟨fud, fue, fun_, h5, tk5, rfl, rfl, ht5, F5, N5, hfS, hflt, hft, hfok⟩
    clear F4 N4
    obtain ⟨hfn, hfl, hfq, hfp⟩ := fur_facts hft
    try k_fold
    k_steps
    refine Held.of ?_
    refine' use_V (c_b64encode _ O (P.cps.map (·.toUInt8)) _ _ hO12 ?hc2) ?kB ?kF ?kN ?kX ?kT ?kk ?kD ?kU ?kp ?_
    case hc2 => rw [Array.size_map]; exact hPl
    case kp => trivial
    walk_at "my call"
    rename Fr _ _ _ _ => oF
    rename News _ _ _ _ => oN
    intro t6 h6 tk6 ht6 F6 N6
    clear oF oN
    obtain ⟨Wb, cs, hWb, hWa, hW0, hW16, hWs, hcs, hcl, hsg, dfs, dp', hdb, hdv, hdl, hdp, hd4, hdue⟩ := wr_gen hO3 hO12 hm1 hm2 hPe
    rw [hWb]
    try k_fold
    k_steps
    refine Held.of ?_
    rename Fr _ _ _ _ => F7
    rw [hWs] at F7 ⊢
    clear hWs hWa hW0 hW16 hWb
    generalize hW : (⟨cs.toArray⟩ : Str) = W at F7 ⊢
    obtain ⟨q1, q2, q3, q4, q5, q6, Z, I, hZ, hZ', hZl, hI, hIl, u1, u2, u3, u4⟩ := quote_gen (n := fue.length) hW.symm hcs hcl hft (by simp [textsOf])
    refine' use_V (c_quoteattr _ W _ fud fue fun_ hfS hfn (Nat.le_trans hfl (by decide)) hfok q1 q2 q3 q4 q5 q6) ?kB ?kF ?kN ?kX ?kT ?kk ?kD ?kU ?kp ?_
    case kp => exact News.get (by k_asm) (by k_mem)
    walk_at "my call"
    rename News _ _ _ _ => oN
    intro t8 h8 tk8 ht8 F8 N8
    clear F7 oN
    rw [hZ]
    clear q1 q2 q3 q4 q5 q6
    try k_fold
    k_steps
    refine Held.of ?_
    have hfg := figF_in O.toList
    have hfgl : (figF O.toList).length ≤ 16 := by rw [figF_length, Array.length_toList]; omega
    refine' use_signs hIf hfgl hfg hPl ?kB ?kF ?kN ?kX ?kT ?kk ?kD ?kU ?kp ?_
    case kp => exact News.isList (by k_asm) (by k_mem)
    walk_at "my call"
    rename Fr _ _ _ _ => oF
    rename News _ _ _ _ => oN
    intro sd sys sn h9 tk9 ht9 F9 N9 hSs
    clear oF oN
    rw [hsg] at hSs
    try k_fold
    k_steps
    refine Held.of ?_
    refine' use_V (c_quoted _ _ _ _ hSs (by rw [List.length_map]; exact hcl) fud fue fun_ hfS hfl sgl_short hfp hfq) ?kB ?kF ?kN ?kX ?kT ?kk ?kD ?kU ?kp ?_
    case kp => exact ⟨News.isList (by k_asm) (by k_mem), News.get (by k_asm) (by k_mem)⟩
    walk_at "my call"
    rename Fr _ _ _ _ => oF
    rename News _ _ _ _ => oN
    intro t10 h10 tk10 ht10 F10 N10
    clear oF oN
    rw [hZ']
    try k_fold
    k_steps
    · exact absurd (by assumption : (Z != Z) = true) (by simp)
    refine Held.of ?_
    refine' fur_lit ?bkF ?bkN backP ?bkz ?bkb ?bkp (by simp [backP]) (by decide) (by decide) (by decide) ?_
    case bkF => exact F10
    case bkN => exact N10
    case bkb => exact hTop.nolimit
    case bkz => with_unfolding_all rfl
    case bkp => exact Nat.lt_of_lt_of_le (by with_unfolding_all assumption) ht10
    intro bkd bke h11 bkn tk11 ht11 F12 N12 hbt hbok hbS hblt
    clear F10 N10
    obtain ⟨v1, v2, v3, v4, v5, v6⟩ := back_gen hbt u2 u3 u4
    clear u2 u3 u4
    try k_fold
    k_steps
    rw [hI]
    rename Fr _ _ _ _ => F13
    rename News _ _ _ _ => N13
    refine' use_V (c_unescape _ I _ bkd bke bkn hbS v1 v2 v3 hbok hIl u1 v4 v5) ?kB ?kF ?kN ?kX ?kT ?kk ?kD ?kU ?kp ?_
    case kp => exact News.get N13 (by k_mem)
    walk_at "my call"
    intro t14 h14 tk14 ht14 F14 N14
    clear F13 N13 v1 v2 v3 v4 v5 hbok hIl u1
    rw [v6]
    try k_fold
    k_steps
    refine Held.of ?_
    rename Fr _ _ _ _ => F15
    rename News _ _ _ _ => N15
    refine due_join (dueB m1 m2 O) F15 N15 ?_ ?_
    · with_reducible refine IfExp_ ?_
      try k_fold
      k_steps
      · exact ⟨_, _, _, congrArg (Value.bytes · _) (due_a (by assumption)).symm, rfl, by k_asm, by k_asm⟩
      · refine Held.of ?_
        rename IntsAre _ (List.map _ (figF _)) => hI7
        refine' use_V (c_octets _ _ _ _ hI7 (by rw [List.length_map]; exact hfgl) (fun n hn => dueF_in hfg hn)) ?kB ?kF ?kN ?kX ?kT ?kk ?kD ?kU ?kp ?_
        case kp => exact News.isList (by k_asm) (by k_mem)
        walk_at "my call"
        rename News _ _ _ _ => oN
        intro t17 h17 tk17 ht17 F17 N17
        exact ⟨_, _, _, congrArg (Value.bytes · _) (due_b (by assumption)).symm, rfl, F17, fun p hp => N17 p (List.mem_cons_of_mem _ hp)⟩
    rintro v s' ⟨t16, h16, tk16, rfl, rfl, F16, N16⟩
    clear F15 N15
    try k_fold
    k_steps
    refine Held.of ?_
    refine' use_V (c_b64decode _ W (P.cps.map (·.toUInt8)) _ _ dfs dp' ?dx ?dz ?dc ?db hdv hdl hdp hd4) ?kB ?kF ?kN ?kX ?kT ?kk ?kD ?kU ?kp ?_
    case dx => subst hW; intro c hc; exact hcs c (by simpa using hc)
    case dz => subst hW; exact Nat.le_trans hcl (by decide)
    case dc => rw [Array.size_map]; exact hPl
    case db => subst hW; exact hdb
    case kp => trivial
    walk_at "my call"
    rename Fr _ _ _ _ => oF
    rename News _ _ _ _ => oN
    intro t18 h18 tk18 ht18 F18 N18
    clear oF oN
    rw [hdue]
    try k_fold
    k_steps
    · exact ⟨congrArg (fun b => Flow.ret (.bool b)) (beq_self_eq_true _), ⟨_, by k_asm⟩, rfl, rfl⟩
    · exact absurd (by assumption : (W == W) = false) (by simp))
end SE
end Mine
theorem PySem.Challenge.cw_il0037_01_holds : PySem.Challenge.rw_il0037_01.Holds := by
  exact Mine.law_holds
