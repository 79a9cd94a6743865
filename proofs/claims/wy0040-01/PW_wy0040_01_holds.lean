import PyProof.Rows.All
import Wide.All
import OpenK.AllK
import Wide.FinOn
import PySem.Challenge.RW_wy0040_01
set_option Elab.async false
set_option maxRecDepth 100000
set_option linter.all false
set_option compiler.extract_closed false
namespace Mine
section
open PySem PySem.W PyProof.Rows
noncomputable def kept : List Nat := [0, 2, 3, 4, 5, 6, 7, 9, 10, 11, 12, 14, 15, 17, 18, 19, 21, 23, 24, 25, 26, 27]
noncomputable def view : Program := { PySem.Challenge.pw_wy0040_01 with main := { PySem.Challenge.pw_wy0040_01.main with body := kept.filterMap fun i => PySem.Challenge.pw_wy0040_01.main.body[i]? } }
noncomputable def lse : List PySem.Str := [PySem.Str.ofString "tspecials", PySem.Str.ofString "_name_disallowed_re", PySem.Str.ofString "_value_disallowed_re", PySem.Str.ofString "_formatparam"]
set_option maxRecDepth 100000 in
set_option maxHeartbeats 0 in
theorem hOp (H : Hook) {d : DefRec} {kwd : List (PySem.Str × Expr)} (hdef : defOf view (OpenLaw.row PySem.Challenge.rw_wy0040_01).name = some (d, kwd)) (hp : (OpenLaw.row PySem.Challenge.rw_wy0040_01).prog.theDef (OpenLaw.row PySem.Challenge.rw_wy0040_01).name = some (d.params, d.body, d.scope)) (hk : kwWritten? d.params.kwonlyargs d.params.kw_defaults = some kwd)
    (hl : LeftO (OpenLaw.row PySem.Challenge.rw_wy0040_01).prog view lse (fun s => xlAt view [] s && recOk (RowW.records (OpenRow.toRowW (OpenLaw.row PySem.Challenge.rw_wy0040_01))) s) H.obs H.val 3184) (k1 : (OpenLaw.row PySem.Challenge.rw_wy0040_01).wellSaid = true) (hw : (OpenLaw.row PySem.Challenge.rw_wy0040_01).toRowW.promised)
    (hc : WalkO view lse (XL view []) H.says (OpenLaw.row PySem.Challenge.rw_wy0040_01).toRowW d kwd fun f vs => PySem.call f vs) : (OpenLaw.row PySem.Challenge.rw_wy0040_01).Holds :=
  holds_open (q := view) (loose := lse) (Xt := fun s => xlAt view [] s && recOk (RowW.records (OpenRow.toRowW (OpenLaw.row PySem.Challenge.rw_wy0040_01))) s) (XP := XL view []) (Yf := Hook.obs H) (Ya := Hook.val H) (YP := Hook.says H) (N := 3184) hl (Hook.of H) (Hook.keeps H) (fun s e => xl_of s (Bool.and_eq_true_iff.mp e).1) XL.keeps hdef hp hk (fun s e => recFacts_of (Bool.and_eq_true_iff.mp e).2) (by rfl) k1 (by decide +kernel) ⟨rfl, rfl, rfl, rfl, rfl, by decide +kernel⟩ hw hc
local macro_rules | `(tactic| o_head $H) => do
  let hl := Lean.mkIdent `hl
  let hw := Lean.mkIdent `hw
  let hc := Lean.mkIdent `hc
  `(tactic| (refine hOp $H (by rfl) (by rfl) (by rfl) ?$hl (by first | assumption | decide +kernel) ?$hw ?$hc; (case $hl:ident => intro w; kernel_rfl)))
set_option maxRecDepth 100000 in
set_option maxHeartbeats 0 in
theorem sayA : looksOpen (OpenLaw.row PySem.Challenge.rw_wy0040_01).prog = true := by kernel_rfl
set_option maxRecDepth 100000 in
set_option maxHeartbeats 0 in
theorem sayB : OpenRow.wellSaid (OpenLaw.row PySem.Challenge.rw_wy0040_01) = true := by
  unfold OpenRow.wellSaid OpenRow.partSaid
  repeat' (with_reducible refine look_both ?_ ?_)
  all_goals (first | with_reducible exact sayA | kernel_rfl)
set_option maxRecDepth 100000 in
set_option maxHeartbeats 0 in
theorem sayC : OpenLaw.wellSaid PySem.Challenge.rw_wy0040_01 = true := by
  unfold OpenLaw.wellSaid
  repeat' (with_reducible refine look_both ?_ ?_)
  all_goals (first | with_reducible exact sayB | kernel_rfl)
local macro_rules | `(tactic| o_law) => `(tactic| refine holds_law sayC fun said => ?_)
set_option maxRecDepth 100000 in
set_option maxHeartbeats 0 in
open_top hd for PySem.Challenge.rw_wy0040_01
end
section
open PySem PySem.W PySem.Spec PySem.Calls PyProof.Rows
noncomputable abbrev Led := List (Addr × Obj)
noncomputable def Apart (a b : Led) : Prop := ∀ p ∈ a, ∀ q ∈ b, p.1 ≠ q.1
noncomputable def Rests (g : Heap) (rest : Led) : Prop := ∀ q ∈ rest, g.get? q.1 = some q.2
noncomputable def Under (b : Nat) (l : Led) : Prop := ∀ q ∈ l, @LT.lt Nat _ q.1 b
section
variable {prog : Program} {w : World} {A₀ A : Around} {s : Shared} {base h₀ : Heap} {outer : List Env} {L : Addr} {m mg mb : PySem.Str → Option Value} {env : Env} {news rest : Led} {K : Frag}
  {R : Result → Shared → Prop} {name qual : PySem.Str} {params : Arguments} {body : List Stmt} {scope : Scope} {cl : List (PySem.Str × Addr)} {dV kV doc pm cdv ct oc : Value} {an od : Option Addr} {osl : Array (Option Value)} {f : Addr} {fo : Obj} {args : Args} {binds : List (PySem.Str × Value)}
  {p : Program} {loose : List PySem.Str} {mean : ExcName → Option Value}
theorem rests_of (NR : News h₀ L s.heap rest) (ap : Apart news rest) : Rests (hideAll s.heap (news.map (·.1))) rest := fun q hq =>
  hideAll_get _ (NR q hq).1 fun hm => by
    obtain ⟨x, hx, e⟩ := List.mem_map.mp hm
    exact ap x hx q hq e
theorem under_of (N : News h₀ L s.heap news) (NR : News h₀ L s.heap rest) : Under s.heap.objs.size (news ++ rest) := fun q hq => by
  rcases List.mem_append.mp hq with hq | hq
  · exact Heap.lt_size (N q hq).1
  · exact Heap.lt_size (NR q hq).1
theorem enter_plain (B : Below A₀ base outer h₀) (F : Fr h₀ L s.heap m) (N : News h₀ L s.heap news) (NR : News h₀ L s.heap rest) (ap : Apart news rest) (hlim : h₀.NoLimit) (hA : A.frames = some (env :: outer)) (hf : env.frame = some L) (hke : env.scope.kind = .function)
    (ho : s.heap.get? f = some fo) (hd : fo.data = .func (fnX name qual params body scope cl dV kV doc pm an cdv ct)) (hcd : s.heap.CodeRec cdv qual) (hroom : A.depth < recursionLimit)
    (hbind : BindsTo s (fnX name qual params body scope cl dV kV doc pm an cdv ct) args binds) (hloc : ∀ y ∈ binds, scope.names.lookup y.1 = some .local)
    (h : ∀ g L' h₁, Fr h₀ L g m → Fr g L' h₁ (fun y => binds.reverse.lookup y) → News g L' h₁ news → Below A base (env :: outer) g → h₀.StaysIn g → (∀ p ∈ news, p.1 < L') → Rests g rest → Under L' (news ++ rest) →
      wpAny (model prog w) (A.deeper (envX qual scope L' f cdv cl)) (execs body (envX qual scope L' f cdv cl))
        (fun fl s' => LeaveK h₀ L m g R (match fl with | .ret v => v | _ => .none) s')
        (fun e s' => wpAny (model prog w) (A.deeper (envX qual scope L' f cdv cl)) (leaving (envX qual scope L' f cdv cl) e) (fun _ s'' => R (.error e) s'') (fun e' s'' => R (.error e') s'') s')
        { s with heap := h₁, toks := s.toks + binds.length })
    (hcell : ∀ x ∈ scope.names, x.2 ≠ .cell) (hco : scope.isCoroutine = false) (hgen : scope.isGenerator = false) (hk : scope.kind = .function) : codeAny (model prog w) A (.call (.ref f) args) R s := by
  obtain ⟨FG, BG, st, lv⟩ := groundX (R := R) B F N hA hf hke
  refine codeAny_call_def (fd := fnX name qual params body scope cl dV kV doc pm an cdv ct) (body := body) (binds := binds) hroom ho hd (hlim.keeps F.keep) hcd rfl hbind hcell hloc (fun h₁ hns hk₁ => ?_) hco hgen hk
  exact wpAny_mono (h _ s.heap.objs.size h₁ FG ⟨hns, fun b o e => hk₁ b o (of_hideAll _ e), Nat.le_of_eq (hideAll_size _ _)⟩
    (fun p hp => ⟨hk₁ _ _ (N p hp).1, Nat.ne_of_lt (Heap.lt_size (N p hp).1), hideAll_none _ (List.mem_map_of_mem hp)⟩) BG st (fun p hp => Heap.lt_size (N p hp).1) (rests_of NR ap) (under_of N NR)) (fun fl s' hl => lv _ _ hl) fun _ _ y => y
theorem enter_cells (B : Below A₀ base outer h₀) (F : Fr h₀ L s.heap m) (N : News h₀ L s.heap news) (NR : News h₀ L s.heap rest) (ap : Apart news rest) (hlim : h₀.NoLimit) (hA : A.frames = some (env :: outer)) (hf : env.frame = some L) (hke : env.scope.kind = .function)
    (ho : s.heap.get? f = some fo) (hd : fo.data = .func (fnX name qual params body scope [] dV kV doc pm an cdv ct)) (hcd : s.heap.CodeRec cdv qual) (hroom : A.depth < recursionLimit)
    (hbind : BindsTo s (fnX name qual params body scope [] dV kV doc pm an cdv ct) args binds)
    (hkind : ∀ n, ∀ x ∈ binds, scope.names.lookup x.1 = some .local ∨ (scope.names.lookup x.1 = some .cell ∧ ((cellsFrom n scope.names []).lookup x.1).isSome = true))
    (hnd : ((cellsFrom 0 scope.names []).map (·.1)).Nodup)
    (h : ∀ g L' h₁ tk cells, Fr h₀ L g m → Fr g L' h₁ (bindL (envOfC qual scope L' f cdv).kindOf binds fun _ => none) → News g L' h₁ (cells ++ news) →
      CellsAre (bindC (envOfC qual scope L' f cdv).kindOf binds fun _ => none) (cellsFrom (L' + 1) scope.names []) cells → Below A base (env :: outer) g → h₀.StaysIn g → (∀ p ∈ news, p.1 < L') → Rests g rest → Under L' (news ++ rest) →
      wpAny (model prog w) (A.deeper (envOfC qual scope L' f cdv)) (execs body (envOfC qual scope L' f cdv))
        (fun fl s' => LeaveK h₀ L m g R (match fl with | .ret v => v | _ => .none) s')
        (fun e s' => wpAny (model prog w) (A.deeper (envOfC qual scope L' f cdv)) (leaving (envOfC qual scope L' f cdv) e) (fun _ s'' => R (.error e) s'') (fun e' s'' => R (.error e') s'') s')
        { s with heap := h₁, toks := tk })
    (hco : scope.isCoroutine = false) (hgen : scope.isGenerator = false) (hk : scope.kind = .function) : codeAny (model prog w) A (.call (.ref f) args) R s := by
  obtain ⟨FG, BG, st, lv⟩ := groundX (R := R) B F N hA hf hke
  have RG := rests_of NR ap
  refine codeAny_call_function hroom ho hd hco hgen rfl hcd (hbind _ _ _ _ ?_)
  refine wpAny_newFunctionEnv_cells hk (hkind _) fun env' he s' x => ?_
  subst he
  refine ⟨(hlim.keeps F.keep).keeps x.toInCall.keep, codeAny_func ?_⟩
  obtain ⟨h₁, tk, rfl, _⟩ := x.done
  have hk₁ := x.toInCall.keep
  obtain ⟨cells, NC, Y⟩ := Cl.news (h₀ := s.heap) (Nat.le_refl _) fun n c hm => ⟨x.cell n c (lookup_of_mem_nodup (cellsFrom_names scope.names 0 (s.heap.objs.size + 1) [] [] rfl ▸ hnd) hm), x.above n c hm⟩
  refine wpAny_mono (h _ s.heap.objs.size h₁ tk cells FG ⟨x.toInCall.ns, fun b o e => hk₁ b o (of_hideAll _ e), Nat.le_of_eq (hideAll_size _ _)⟩ (fun p hp => ?_) Y BG st (fun p hp => Heap.lt_size (N p hp).1) RG (under_of N NR)) (fun fl s' hl => lv _ _ hl) fun _ _ y => y
  rcases List.mem_append.mp hp with hp | hp
  · refine ⟨(NC p hp).1, (NC p hp).2.1, ?_⟩
    cases q : (hideAll s.heap (news.map (·.1))).get? p.1 with
    | none => rfl
    | some o => have := of_hideAll _ q; rw [(NC p hp).2.2] at this; cases this
  · exact ⟨hk₁ _ _ (N p hp).1, Nat.ne_of_lt (Heap.lt_size (N p hp).1), hideAll_none _ (List.mem_map_of_mem hp)⟩
theorem code_defR (B : Below A₀ base outer h₀) (F : Fr h₀ L s.heap m) (X₀ : K.In h₀) (N : News h₀ L s.heap (news ++ rest)) (ap : Apart news rest) (T : Top p loose mean mg mb h₀) (hA : A.frames = some (env :: outer)) (hf : env.frame = some L) (hke : env.scope.kind = .function)
    (ho : K.lookup f = some ⟨oc, od, .func (fnOf name qual params body scope dV kV doc pm an cdv ct), osl⟩) (hcd : codeIn K cdv qual = true) (hroom : A.depth < recursionLimit)
    (hbind : BindsTo s (fnOf name qual params body scope dV kV doc pm an cdv ct) args binds) (hloc : ∀ y ∈ binds, scope.names.lookup y.1 = some .local)
    (h : ∀ g L' h₁, Fr h₀ L g m → Fr g L' h₁ (fun y => binds.reverse.lookup y) → News g L' h₁ news → Below A base (env :: outer) g → K.In g → Top p loose mean mg mb g → (∀ p ∈ news, p.1 < L') → Rests g rest → Under L' (news ++ rest) →
      wpAny (model prog w) (A.deeper (envOf qual scope L' f cdv)) (execs body (envOf qual scope L' f cdv))
        (fun fl s' => LeaveK h₀ L m g R (match fl with | .ret v => v | _ => .none) s')
        (fun e s' => wpAny (model prog w) (A.deeper (envOf qual scope L' f cdv)) (leaving (envOf qual scope L' f cdv) e) (fun _ s'' => R (.error e) s'') (fun e' s'' => R (.error e') s'') s')
        { s with heap := h₁, toks := s.toks + binds.length })
    (hco : scope.isCoroutine = false) (hgen : scope.isGenerator = false) (hk : scope.kind = .function)
    (hcell : ∀ x ∈ scope.names, x.2 ≠ .cell) : codeAny (model prog w) A (.call (.ref f) args) R s :=
  enter_plain (cl := []) B F (fun q hq => N q (List.mem_append_left _ hq)) (fun q hq => N q (List.mem_append_right _ hq)) ap T.nolimit hA hf hke ((X₀.keeps F.keep) _ _ ho) rfl (codeRec_of (X₀.keeps F.keep) hcd) hroom hbind hloc
    (fun g L' h₁ FG F' N' B' st l r u => h g L' h₁ FG F' N' B' (X₀.keeps st) (T.keeps st) l r u) hcell hco hgen hk
theorem code_defCR (B : Below A₀ base outer h₀) (F : Fr h₀ L s.heap m) (X₀ : K.In h₀) (N : News h₀ L s.heap (news ++ rest)) (ap : Apart news rest) (T : Top p loose mean mg mb h₀) (hA : A.frames = some (env :: outer)) (hf : env.frame = some L) (hke : env.scope.kind = .function)
    (ho : K.lookup f = some ⟨oc, od, .func (fnOf name qual params body scope dV kV doc pm an cdv ct), osl⟩) (hcd : codeIn K cdv qual = true) (hroom : A.depth < recursionLimit)
    (hbind : BindsTo s (fnOf name qual params body scope dV kV doc pm an cdv ct) args binds) (hkind : (binds.all fun y => scope.names.lookup y.1 == some .local || scope.names.lookup y.1 == some .cell) = true)
    (hnd : ((cellsFrom 0 scope.names []).map (·.1)).Nodup)
    (h : ∀ g L' h₁ tk cells, Fr h₀ L g m → Fr g L' h₁ (bindL (envOfC qual scope L' f cdv).kindOf binds fun _ => none) → News g L' h₁ (cells ++ news) →
      CellsAre (bindC (envOfC qual scope L' f cdv).kindOf binds fun _ => none) (cellsFrom (L' + 1) scope.names []) cells → Below A base (env :: outer) g → K.In g → Top p loose mean mg mb g → (∀ p ∈ news, p.1 < L') → Rests g rest → Under L' (news ++ rest) →
      wpAny (model prog w) (A.deeper (envOfC qual scope L' f cdv)) (execs body (envOfC qual scope L' f cdv))
        (fun fl s' => LeaveK h₀ L m g R (match fl with | .ret v => v | _ => .none) s')
        (fun e s' => wpAny (model prog w) (A.deeper (envOfC qual scope L' f cdv)) (leaving (envOfC qual scope L' f cdv) e) (fun _ s'' => R (.error e) s'') (fun e' s'' => R (.error e') s'') s')
        { s with heap := h₁, toks := tk })
    (hco : scope.isCoroutine = false) (hgen : scope.isGenerator = false) (hk : scope.kind = .function) : codeAny (model prog w) A (.call (.ref f) args) R s :=
  enter_cells B F (fun q hq => N q (List.mem_append_left _ hq)) (fun q hq => N q (List.mem_append_right _ hq)) ap T.nolimit hA hf hke ((X₀.keeps F.keep) _ _ ho) rfl (codeRec_of (X₀.keeps F.keep) hcd) hroom hbind (kindsX hkind) hnd
    (fun g L' h₁ tk cells FG F' N' Y B' st l r u => h g L' h₁ tk cells FG F' N' Y B' (X₀.keeps st) (T.keeps st) l r u) hco hgen hk
theorem code_nestR {c' : Addr} {ctv : Value} (B : Below A₀ base outer h₀) (F : Fr h₀ L s.heap m) (X₀ : K.In h₀) (N : News h₀ L s.heap (news ++ rest)) (ap : Apart news rest) (T : Top p loose mean mg mb h₀) (hA : A.frames = some (env :: outer)) (hf : env.frame = some L) (hke : env.scope.kind = .function)
    (ho : (f, fnMade name qual params body scope cl doc pm c' ctv) ∈ news) (hcd : s.heap.CodeRec (.ref c') qual) (hroom : A.depth < recursionLimit)
    (hbind : BindsTo s (fnX name qual params body scope cl .none .none doc pm none (.ref c') ctv) args binds) (hloc : ∀ y ∈ binds, scope.names.lookup y.1 = some .local)
    (h : ∀ g L' h₁, Fr h₀ L g m → Fr g L' h₁ (fun y => binds.reverse.lookup y) → News g L' h₁ news → Below A base (env :: outer) g → K.In g → Top p loose mean mg mb g → (∀ p ∈ news, p.1 < L') → Rests g rest → Under L' (news ++ rest) →
      wpAny (model prog w) (A.deeper (envX qual scope L' f (.ref c') cl)) (execs body (envX qual scope L' f (.ref c') cl))
        (fun fl s' => LeaveK h₀ L m g R (match fl with | .ret v => v | _ => .none) s')
        (fun e s' => wpAny (model prog w) (A.deeper (envX qual scope L' f (.ref c') cl)) (leaving (envX qual scope L' f (.ref c') cl) e) (fun _ s'' => R (.error e) s'') (fun e' s'' => R (.error e') s'') s')
        { s with heap := h₁, toks := s.toks + binds.length })
    (hco : scope.isCoroutine = false) (hgen : scope.isGenerator = false) (hk : scope.kind = .function)
    (hcell : ∀ x ∈ scope.names, x.2 ≠ .cell) : codeAny (model prog w) A (.call (.ref f) args) R s :=
  enter_plain (cl := cl) B F (fun q hq => N q (List.mem_append_left _ hq)) (fun q hq => N q (List.mem_append_right _ hq)) ap T.nolimit hA hf hke (N _ (List.mem_append_left _ ho)).1 rfl hcd hroom hbind hloc
    (fun g L' h₁ FG F' N' B' st l r u => h g L' h₁ FG F' N' B' (X₀.keeps st) (T.keeps st) l r u) hcell hco hgen hk
theorem rests {g h : Heap} {L' : Addr} {m' : PySem.Str → Option Value} {nn : Led} (kN : News h₀ L h nn) (N : News h₀ L s.heap (news ++ rest)) (R : Rests g rest) (F' : Fr g L' h m') : News h₀ L h (nn ++ rest) := fun q hq => by
  rcases List.mem_append.mp hq with hq | hq
  · exact kN q hq
  · exact ⟨F'.keep _ _ (R q hq), (N q (List.mem_append_right _ hq)).2⟩
end
noncomputable def Codes (base : Heap) : Prop := CodeHd base 51 47 ∧ CodeHd base 58 54
noncomputable def Ok (w : World) (p : Program) (loose : List PySem.Str) (mean : ExcName → Option Value) (mg mb : PySem.Str → Option Value) (f : Addr) (vs : List Value) (need : Nat) (news : Led) (Post : Nat → Led → Value → Prop) : Prop :=
  ∀ (dp un : Nat) (gd : Option (List Code)) (cn : PySem.Str) (cs : Scope) (a : Addr) (ccd : Value) (cl : List (PySem.Str × Addr)) (outer : List Env) (A₀ : Around) (base h₀ : Heap) (L : Addr) (m : PySem.Str → Option Value) (s : Shared) (rest : Led)
    (Q E : Value → Shared → Prop),
    Below A₀ base outer h₀ → Fr h₀ L s.heap m → (hd.heap_1 w.params).In h₀ → News h₀ L s.heap (news ++ rest) → Apart news rest → Top p loose mean mg mb h₀ → cs.kind = .function → Codes base → dp + need < recursionLimit → un + 8 * need < cLine →
    (∀ b r news' h' tk', Under b (news ++ rest) → Fr h₀ L h' m → News h₀ L h' (news' ++ rest) → Post b news' r → Q r { s with heap := h', toks := tk' }) →
    wpAny (model PySem.Challenge.rw_wy0040_01.row.toRowW.prog w) (ktrTop dp un gd cn cs L a ccd cl outer) (call (.ref f) vs) Q E s
inductive Pick (a : Addr) (o : Obj) : Led → Led → Prop
  | head {r} : Pick a o ((a, o) :: r) r
  | tail {p l r} : Pick a o l r → Pick a o (p :: l) (p :: r)
inductive Picks : Led → Led → Led → Prop
  | nil {l} : Picks [] l l
  | cons {a o rel l l1 rest} : Pick a o l l1 → Picks rel l1 rest → Picks ((a, o) :: rel) l rest
theorem Pick.mem {a : Addr} {o : Obj} : ∀ {l r : Led}, Pick a o l r → (a, o) ∈ l ∧ (∀ q ∈ r, q ∈ l)
  | _, _, .head => ⟨List.mem_cons_self .., fun q hq => List.mem_cons_of_mem _ hq⟩
  | _, _, .tail (p := p) t => by
    obtain ⟨a1, a2⟩ := t.mem
    refine ⟨List.mem_cons_of_mem _ a1, fun q hq => ?_⟩
    rcases List.mem_cons.mp hq with rfl | hq
    · exact List.mem_cons_self ..
    · exact List.mem_cons_of_mem _ (a2 q hq)
theorem Picks.mem : ∀ {rel l rest : Led}, Picks rel l rest → (∀ q ∈ rel ++ rest, q ∈ l)
  | _, _, _, .nil => fun q hq => hq
  | _, _, _, .cons (a := a) (o := o) t ts => by
    obtain ⟨a1, a2⟩ := t.mem
    have b1 := ts.mem
    intro q hq
    rcases List.mem_cons.mp hq with rfl | hq
    · exact a1
    · exact a2 q (b1 q hq)
section
variable {w : World} {p : Program} {loose : List PySem.Str} {mean : ExcName → Option Value} {mg mb : PySem.Str → Option Value}
theorem Ok.use {f : Addr} {vs : List Value} {need : Nat} {news l rest : Led} {Post : Nat → Led → Value → Prop} {dp un : Nat} {gd : Option (List Code)} {cn : PySem.Str} {cs : Scope} {a : Addr} {ccd : Value} {cl : List (PySem.Str × Addr)} {outer : List Env} {A₀ : Around} {base h₀ : Heap} {L : Addr} {m : PySem.Str → Option Value} {s : Shared}
    {Q E : Value → Shared → Prop} (B : Below A₀ base outer h₀) (F : Fr h₀ L s.heap m) (X : (hd.heap_1 w.params).In h₀) (N : News h₀ L s.heap l) (T : Top p loose mean mg mb h₀) (hk : cs.kind = .function) (hC : Codes base)
    (C : Ok w p loose mean mg mb f vs need news Post) (P : Picks news l rest) (ap : Apart news rest) (hd : dp + need < recursionLimit) (hu : un + 8 * need < cLine)
    (ret : ∀ b r news' h' tk', Under b (news ++ rest) → Fr h₀ L h' m → News h₀ L h' (news' ++ rest) → Post b news' r → Q r { s with heap := h', toks := tk' }) :
    wpAny (model PySem.Challenge.rw_wy0040_01.row.toRowW.prog w) (ktrTop dp un gd cn cs L a ccd cl outer) (call (.ref f) vs) Q E s :=
  C _ _ _ _ _ _ _ _ _ _ _ _ _ _ _ _ _ _ B F X (fun q hq => N q (P.mem q hq)) ap T hk hC hd hu ret
end
noncomputable abbrev tupO (vs : List Value) : Obj := { cls := .type "tuple", data := .seq vs.toArray }
noncomputable abbrev lstC (vs : List Value) (k : Nat) : Obj := { cls := .type "list", data := .seq vs.toArray k }
noncomputable abbrev lstO (vs : List Value) : Obj := lstC vs 0
theorem ib_add {x y : Int} {k : Nat} (hx : Builtin.Int.intBits x ≤ k / 2) (hy : Builtin.Int.intBits y ≤ k / 2) (h : 2 ≤ k) : Builtin.Int.intBits (x + y) ≤ k := Nat.le_trans (intBits_add_le hx hy) (by (first | lia | omega))
theorem ib_sub {x y : Int} {k : Nat} (hx : Builtin.Int.intBits x ≤ k / 2) (hy : Builtin.Int.intBits y ≤ k / 2) (h : 2 ≤ k) : Builtin.Int.intBits (x - y) ≤ k := Nat.le_trans (intBits_sub_le hx hy) (by (first | lia | omega))
theorem ib_mul {x y : Int} {k : Nat} (hx : Builtin.Int.intBits x ≤ k / 2) (hy : Builtin.Int.intBits y ≤ k / 2) : Builtin.Int.intBits (x * y) ≤ k := Nat.le_trans (intBits_mul_le hx hy) (by (first | lia | omega))
theorem ib_pow {n : Int} {k : Nat} (h : n ≤ 1000000) (hk : 2000001 ≤ k) : Builtin.Int.intBits ((2 : Int) ^ n.toNat) ≤ k := Nat.le_trans (kbm_pow n h) hk
theorem bits_of {x : Int} {m : Nat} (h0 : 0 ≤ x) (h : x < 2 ^ m) : Builtin.Int.intBits x ≤ m := intBits_le_iff.mpr (by
  have e : ((x.natAbs : Nat) : Int) < ((2 ^ m : Nat) : Int) := by rw [kbt_cast]; (first | lia | omega)
  exact Int.ofNat_lt.mp e)
theorem pow_mono {m k : Nat} (h : m ≤ k) : (2 : Int) ^ m ≤ 2 ^ k := by
  have := Nat.pow_le_pow_right (n := 2) (by decide) h
  rw [← kbt_cast, ← kbt_cast]; exact Int.ofNat_le.mpr this
theorem see {h₀ h : Heap} {L : Addr} {m : PySem.Str → Option Value} (x : PySem.Str) (v : Value) (F : Fr h₀ L h m) (e : m x = some v) : Fr h₀ L h (fun y => if y = x then some v else m y) := by
  have q : (fun y => if y = x then some v else m y) = m := by
    funext y
    by_cases hy : y = x
    · subst hy; simp [e]
    · simp [hy]
  rw [q]; exact F
theorem see2 {h₀ h : Heap} {L : Addr} {m : PySem.Str → Option Value} {x1 x2 : PySem.Str} {v1 v2 : Value} (F : Fr h₀ L h m) (e1 : m x1 = some v1) (e2 : m x2 = some v2) : Fr h₀ L h (fun y => if y = x1 then some v1 else if y = x2 then some v2 else m y) := by
  have q : (fun y => if y = x1 then some v1 else if y = x2 then some v2 else m y) = m := by
    funext y
    repeat' split
    all_goals (try subst_vars; try simp_all)
  rw [q]; exact F
theorem see3 {h₀ h : Heap} {L : Addr} {m : PySem.Str → Option Value} {x1 x2 x3 : PySem.Str} {v1 v2 v3 : Value} (F : Fr h₀ L h m) (e1 : m x1 = some v1) (e2 : m x2 = some v2) (e3 : m x3 = some v3) : Fr h₀ L h (fun y => if y = x1 then some v1 else if y = x2 then some v2 else if y = x3 then some v3 else m y) := by
  have q : (fun y => if y = x1 then some v1 else if y = x2 then some v2 else if y = x3 then some v3 else m y) = m := by
    funext y
    repeat' split
    all_goals (try subst_vars; try simp_all)
  rw [q]; exact F
theorem see4 {h₀ h : Heap} {L : Addr} {m : PySem.Str → Option Value} {x1 x2 x3 x4 : PySem.Str} {v1 v2 v3 v4 : Value} (F : Fr h₀ L h m) (e1 : m x1 = some v1) (e2 : m x2 = some v2) (e3 : m x3 = some v3) (e4 : m x4 = some v4) : Fr h₀ L h (fun y => if y = x1 then some v1 else if y = x2 then some v2 else if y = x3 then some v3 else if y = x4 then some v4 else m y) := by
  have q : (fun y => if y = x1 then some v1 else if y = x2 then some v2 else if y = x3 then some v3 else if y = x4 then some v4 else m y) = m := by
    funext y
    repeat' split
    all_goals (try subst_vars; try simp_all)
  rw [q]; exact F
theorem and_low : ∀ (k : Nat) (x y : Int), 0 ≤ y → y < 2 ^ k → Builtin.bitAnd (x * 2 ^ k) y = 0
  | 0, x, y, h0, h => by
    have e : y = 0 := by rw [Int.pow_zero] at h; (first | lia | omega)
    subst e
    rw [bitAnd_comm]
    have := bitAnd_range x (y := 0) (by (first | lia | omega))
    have h2 := bitAnd_range (x * 2 ^ 0) (y := 0) (by (first | lia | omega))
    rw [bitAnd_comm] at h2
    (first | lia | omega)
  | k + 1, x, y, h0, h => by
    rw [kbt_halves]
    have e1 : x * 2 ^ (k + 1) = 2 * (x * 2 ^ k) := by rw [Int.pow_succ]; rw [← Int.mul_assoc, Int.mul_comm _ 2]
    have e2 : x * 2 ^ (k + 1) / 2 = x * 2 ^ k := by rw [e1]; (first | lia | omega)
    have e3 : x * 2 ^ (k + 1) % 2 = 0 := by rw [e1]; (first | lia | omega)
    rw [e2, e3, and_low k x (y / 2) (by (first | lia | omega)) (by rw [Int.pow_succ] at h; (first | lia | omega))]
    simp
theorem or_low {x y : Int} {k : Nat} (h0 : 0 ≤ y) (h : y < 2 ^ k) : Builtin.bitOr (x * 2 ^ k) y = x * 2 ^ k + y := by
  have h1 := bitXor_and (x * 2 ^ k) y
  have h2 : Builtin.bitXor (x * 2 ^ k) y = Builtin.bitOr (x * 2 ^ k) y - Builtin.bitAnd (x * 2 ^ k) y := rfl
  rw [and_low k x y h0 h] at h1 h2
  (first | lia | omega)
theorem m3_sum {a12 a3 b b1 b2 q r P : Int} (hq : q * b1 + r = a12) (hb : b = b1 * P + b2) : q * b + (r * P + a3 - q * b2) = a12 * P + a3 := by
  subst hb hq
  rw [Int.mul_add, Int.add_mul, Int.mul_assoc]; (first | lia | omega)
theorem q_nonneg {q b1 r a12 : Int} (hq : q * b1 + r = a12) (h1 : 0 ≤ a12) (hr : r < b1) (hb : 0 < b1) : 0 ≤ q := by
  refine Int.not_lt.mp fun h => ?_
  have : q * b1 ≤ (-1) * b1 := Int.mul_le_mul_of_nonneg_right (by (first | lia | omega)) (by (first | lia | omega))
  (first | lia | omega)
theorem m3_low {a12 a3 b b1 b2 q r P : Int} (hq : q * b1 + r = a12) (hb : b = b1 * P + b2) (h1 : 0 ≤ a12) (hr : r < b1) (h8 : 0 < b1) (h4 : a3 < P) (h6 : 0 ≤ b2) (hP : 0 < P) : r * P + a3 - q * b2 < b := by
  have e : 0 ≤ q * b2 := Int.mul_nonneg (q_nonneg hq h1 hr h8) h6
  have e2 : (r + 1) * P ≤ b1 * P := Int.mul_le_mul_of_nonneg_right (by (first | lia | omega)) (by (first | lia | omega))
  rw [Int.add_mul] at e2
  (first | lia | omega)
theorem m3_top {a12 a3 b b1 b2 P : Int} (hb : b = b1 * P + b2) (h2 : a12 < b) (h4 : a3 < P) (hP : 0 < P) : (a12 - b1 * P + b1) * P + a3 - (P - 1) * b2 < b := by
  have e : (a12 - b1 * P + b1) * P ≤ (b1 + b2 - 1) * P := Int.mul_le_mul_of_nonneg_right (by (first | lia | omega)) (by (first | lia | omega))
  have e2 : (b1 + b2 - 1) * P = b1 * P + b2 * P - P := by rw [Int.sub_mul, Int.add_mul]; (first | lia | omega)
  have e3 : (P - 1) * b2 = b2 * P - b2 := by rw [Int.sub_mul, Int.mul_comm]; (first | lia | omega)
  rw [e3]
  (first | lia | omega)
theorem m3_topsum {a12 b1 P : Int} : (P - 1) * b1 + (a12 - b1 * P + b1) = a12 := by
  have e3 : (P - 1) * b1 = b1 * P - b1 := by rw [Int.sub_mul, Int.mul_comm]; (first | lia | omega)
  rw [e3]; (first | lia | omega)
theorem lt_of_fdiv_ne {a b1 b2 b P : Int} (hP : 0 < P) (hb : b = b1 * P + b2) (h2 : a < b) (h7 : b2 < P) (h : a.fdiv P ≠ b1) : a < b1 * P := by
  rw [Int.fdiv_eq_ediv_of_nonneg _ (by (first | lia | omega))] at h
  have e : a / P < b1 + 1 := (Int.ediv_lt_iff_lt_mul hP).mpr (by rw [Int.add_mul]; (first | lia | omega))
  exact (Int.ediv_lt_iff_lt_mul hP).mp (by (first | lia | omega))
theorem q_le {q b r a : Int} (hq : q * b + r = a) (h0 : 0 ≤ q) (hb : 0 < b) (hr : 0 ≤ r) : q ≤ a := by
  have : q * 1 ≤ q * b := Int.mul_le_mul_of_nonneg_left (by (first | lia | omega)) h0
  (first | lia | omega)
theorem two_lt {b1 b2 b : Int} {n k : Nat} (hb : b = b1 * 2 ^ n + b2) (h7 : b2 < 2 ^ n) (h10 : b1 < 2 ^ n) (h : n + n ≤ k) : b < 2 ^ k := by
  have hP : (0 : Int) < 2 ^ n := kbt_pos n
  have e : b1 * 2 ^ n ≤ (2 ^ n - 1) * 2 ^ n := Int.mul_le_mul_of_nonneg_right (by (first | lia | omega)) (by (first | lia | omega))
  have e2 : (2 : Int) ^ n * 2 ^ n ≤ 2 ^ k := by rw [← Int.pow_add]; exact pow_mono h
  rw [Int.sub_mul] at e
  (first | lia | omega)
theorem m2_pre {a b : Int} {h : Nat} (h1 : 1 ≤ h) (ha : 0 ≤ a) (hlo : 2 ^ (h + h) ≤ 2 * b) (hhi : b < 2 ^ (h + h)) (hab : a < b * 2 ^ (h + h)) :
    0 ≤ a.fdiv (2 ^ (h + h)) ∧ a.fdiv (2 ^ (h + h)) < b ∧ 0 < b.fdiv (2 ^ h) ∧ 2 ^ h ≤ 2 * b.fdiv (2 ^ h) ∧ b.fdiv (2 ^ h) < 2 ^ h ∧ a.fdiv (2 ^ (h + h)) * 2 ^ h + (a.fdiv (2 ^ h)).fmod (2 ^ h) = a.fdiv (2 ^ h) := by
  have hP : (0 : Int) < 2 ^ h := kbt_pos h
  have hPP : (0 : Int) < 2 ^ (h + h) := kbt_pos _
  have ePP : (2 : Int) ^ (h + h) = 2 ^ h * 2 ^ h := Int.pow_add ..
  have hev : (2 : Int) ^ h = 2 * 2 ^ (h - 1) := by
    obtain ⟨k, rfl⟩ : ∃ k, h = k + 1 := ⟨h - 1, by (first | lia | omega)⟩
    rw [Int.pow_succ]; simp; (first | lia | omega)
  have w1 := kbt_whole b h
  have w2 := kbt_rest b h
  rw [Int.fdiv_eq_ediv_of_nonneg a (by (first | lia | omega)), Int.fdiv_eq_ediv_of_nonneg a (by (first | lia | omega)), Int.fdiv_eq_ediv_of_nonneg b (by (first | lia | omega)), Int.fmod_eq_emod_of_nonneg _ (by (first | lia | omega))]
  rw [Int.fdiv_eq_ediv_of_nonneg b (by (first | lia | omega))] at w1
  have e1 : b / 2 ^ h < 2 ^ h := (Int.ediv_lt_iff_lt_mul hP).mpr (by (first | lia | omega))
  have e3 : 2 ^ h < 2 * (b / 2 ^ h) + 2 := by
    refine Int.not_le.mp fun hc => ?_
    have : (2 * (b / 2 ^ h) + 2) * 2 ^ h ≤ 2 ^ h * 2 ^ h := Int.mul_le_mul_of_nonneg_right hc (by (first | lia | omega))
    rw [Int.add_mul, Int.mul_assoc] at this
    (first | lia | omega)
  refine ⟨Int.ediv_nonneg ha (by (first | lia | omega)), (Int.ediv_lt_iff_lt_mul hPP).mpr hab, by (first | lia | omega), by (first | lia | omega), e1, ?_⟩
  have e4 : a / 2 ^ (h + h) = a / 2 ^ h / 2 ^ h := by rw [ePP, Int.ediv_ediv_of_nonneg (by (first | lia | omega))]
  rw [e4]
  have := Int.mul_ediv_add_emod (a / 2 ^ h) (2 ^ h)
  rw [Int.mul_comm] at this
  exact this
theorem m2_sum {a b q1 q2 r1 r2 P A1 : Int} (e1 : q1 * b + r1 = A1) (e2 : q2 * b + r2 = r1 * P + a.fmod P) (eA : A1 * P + a.fmod P = a) : (q1 * P + q2) * b + r2 = a := by
  have : q1 * P * b = q1 * b * P := by rw [Int.mul_assoc, Int.mul_comm P b, ← Int.mul_assoc]
  have e3 : (q1 * b + r1) * P = A1 * P := by rw [e1]
  rw [Int.add_mul] at e3 ⊢
  (first | lia | omega)
theorem m2_q2 {b q2 r1 r2 x P : Int} (e2 : q2 * b + r2 = r1 * P + x) (h0 : 0 ≤ r2) (hx : x < P) (hr : r1 < b) (hb : 0 < b) (hP : 0 < P) : q2 < P := by
  refine Int.not_le.mp fun hc => ?_
  have h1 : P * b ≤ q2 * b := Int.mul_le_mul_of_nonneg_right hc (by (first | lia | omega))
  have h2 : (r1 + 1) * P ≤ b * P := Int.mul_le_mul_of_nonneg_right (by (first | lia | omega)) (by (first | lia | omega))
  rw [Int.add_mul] at h2
  rw [Int.mul_comm P b] at h1
  (first | lia | omega)
theorem m2_half {a b Q r : Int} (e : Q * (b * 2) + r = a * 2) (h0 : 0 ≤ r) (h : r < b * 2) : Q * b + r.fdiv 2 = a ∧ 0 ≤ r.fdiv 2 ∧ r.fdiv 2 < b := by
  rw [Int.fdiv_eq_ediv_of_nonneg _ (by decide)]
  rw [← Int.mul_assoc] at e
  (first | lia | omega)
section
variable {w : World} {p : Program} {loose : List PySem.Str} {mean : ExcName → Option Value} {mg mb : PySem.Str → Option Value}
theorem Ok.conv {f : Addr} {vs vs' : List Value} {need : Nat} {news : Led} {Post : Nat → Led → Value → Prop} (C : Ok w p loose mean mg mb f vs need news Post) (e : vs' = vs) : Ok w p loose mean mg mb f vs' need news Post := e ▸ C
end
theorem noPy {x y : Int} (h : Builtin.Int.intBits y ≤ 9000) : Builtin.divisionGoesByPylong x y = false := by
  refine PyProof.noPylong_of_log2 ?_
  unfold Builtin.Int.intBits at h
  split at h
  · rename_i e
    have e' : y = 0 := by simpa using e
    subst e'; decide +kernel
  · (first | lia | omega)
theorem half1 (n : Nat) : (n : Int).fdiv (2 ^ (1 : Int).toNat) = ((n / 2 : Nat) : Int) := by
  rw [Int.fdiv_eq_ediv_of_nonneg _ (by decide)]; simp
theorem half2 (n : Nat) : ((n : Int) + 1).fdiv (2 ^ (1 : Int).toNat) = (((n + 1) / 2 : Nat) : Int) := by
  rw [Int.fdiv_eq_ediv_of_nonneg _ (by decide)]; simp
theorem m2_pad {a b : Int} {n h : Nat} (hn : n + 1 = h + h) (hlo : 2 ^ n ≤ 2 * b) (hhi : b < 2 ^ n) (hab : a < b * 2 ^ n) (hb : 0 < b) :
    2 ^ (h + h) ≤ 2 * (b * 2) ∧ b * 2 < 2 ^ (h + h) ∧ a * 2 < b * 2 * 2 ^ (h + h) := by
  have e23 : (2 : Int) ^ (h + h) = 2 ^ n * 2 := by rw [← hn, Int.pow_succ]
  have hP : (0 : Int) < 2 ^ n := kbt_pos n
  have e : b * 2 * (2 ^ n * 2) = b * 2 ^ n * 4 := by
    rw [Int.mul_assoc, ← Int.mul_assoc 2, Int.mul_comm 2 (2 ^ n), Int.mul_assoc (2 ^ n), ← Int.mul_assoc b]; rfl
  have e2 : 0 < b * 2 ^ n := Int.mul_pos hb hP
  rw [e23, e]
  (first | lia | omega)
theorem m2_end {a b Q1 Q2 R1 R2 : Int} {h : Nat} (hb : 0 < b)
    (e1 : Q1 * b + R1 = a.fdiv (2 ^ (h + h)) * 2 ^ h + (a.fdiv (2 ^ h)).fmod (2 ^ h)) (g6 : a.fdiv (2 ^ (h + h)) * 2 ^ h + (a.fdiv (2 ^ h)).fmod (2 ^ h) = a.fdiv (2 ^ h))
    (h10 : 0 ≤ R1) (h11 : R1 < b) (e2 : Q2 * b + R2 = R1 * 2 ^ h + a.fmod (2 ^ h)) (h20 : 0 ≤ R2) (h21 : R2 < b) : Builtin.bitOr (Q1 * 2 ^ h) Q2 * b + R2 = a := by
  have hP : (0 : Int) < 2 ^ h := kbt_pos h
  have r := kbt_rest a h
  have hA : 0 ≤ R1 * 2 ^ h + a.fmod (2 ^ h) := by have := Int.mul_nonneg h10 (Int.le_of_lt hP); (first | lia | omega)
  rw [or_low (q_nonneg e2 hA h21 hb) (m2_q2 e2 h20 r.2 h11 hb hP)]
  exact m2_sum (e1.trans g6) e2 (kbt_whole a h)
theorem mem2 {α : Type} {a b : α} {l : List α} : ∀ x ∈ l, x ∈ a :: b :: l := fun _ hx => List.mem_cons_of_mem _ (List.mem_cons_of_mem _ hx)
noncomputable def innerOf (k : Nat) : Arguments × List Stmt × Scope :=
  match PySem.Challenge.pw_wy0040_01.main.body[k]? with
  | some (.FunctionDef _ _ body _ _ _ _ _ _ _) => (body.findSome? fun st => match st with
      | .FunctionDef _ a b _ _ _ sc _ _ _ => some (a, b, sc)
      | _ => none).getD default
  | _ => default
noncomputable def undig (n : Nat) : List Int → Int
  | [] => 0
  | d :: r => d + 2 ^ n * undig n r
theorem undig_append (n : Nat) : ∀ a b : List Int, undig n (a ++ b) = undig n a + 2 ^ (n * a.length) * undig n b
  | [], b => by simp [undig]
  | d :: a, b => by
    rw [List.cons_append, undig, undig_append n a b, undig, List.length_cons, Nat.mul_add, Nat.mul_one, Nat.add_comm (n * a.length), Int.pow_add, Int.mul_add, Int.mul_assoc]
    (first | lia | omega)
theorem undig_bits {n B : Nat} : ∀ l : List Int, (∀ d ∈ l, Builtin.Int.intBits d ≤ B) → Builtin.Int.intBits (undig n l) ≤ B + l.length * (n + 2)
  | [], _ => by simp [undig, Builtin.Int.intBits]
  | d :: r, h => by
    have ih := undig_bits (n := n) r fun x hx => h x (List.mem_cons_of_mem _ hx)
    have h1 := h d (List.mem_cons_self ..)
    have hp : Builtin.Int.intBits ((2 : Int) ^ n) ≤ n + 1 := bits_of (Int.le_of_lt (kbt_pos n)) (by have := pow_mono (m := n + 1) (k := n + 1) (Nat.le_refl _); rw [Int.pow_succ]; have := kbt_pos n; (first | lia | omega))
    have := intBits_add_le h1 (intBits_mul_le hp ih)
    rw [undig, List.length_cons, Nat.add_mul, Nat.one_mul]
    (first | lia | omega)
theorem isL {h₀ h : Heap} {L l : Addr} {news : Led} {vs : List Value} {k : Nat} (N : News h₀ L h news) (hm : (l, lstC vs k) ∈ news) : h.IsList l vs.toArray := ⟨_, (N _ hm).1, rfl, _, rfl⟩
theorem slice_cut (ds : List Int) {a b c : Nat} (h1 : a ≤ b) (h2 : b ≤ c) : (ds.drop a).take (c - a) = (ds.drop a).take (b - a) ++ (ds.drop b).take (c - b) := by
  have e : c - a = (b - a) + (c - b) := by (first | lia | omega)
  rw [e, List.take_add, List.drop_drop]
  congr 3; (first | lia | omega)
theorem slice_one {ds : List Int} {a : Nat} {d : Int} (h : ds[a]? = some d) : (ds.drop a).take (a + 1 - a) = [d] := by
  have e : a + 1 - a = 1 := by (first | lia | omega)
  rw [e]
  have hl : a < ds.length := by
    rcases Nat.lt_or_ge a ds.length with q | q
    · exact q
    · rw [List.getElem?_eq_none q] at h; cases h
  rw [List.drop_eq_getElem_cons hl, List.take_succ_cons, List.take_zero]
  rw [List.getElem?_eq_getElem hl] at h
  rw [Option.some.inj h]
theorem slice_len (ds : List Int) {a b : Nat} (h1 : a ≤ b) (h2 : b ≤ ds.length) : ((ds.drop a).take (b - a)).length = b - a := by
  rw [List.length_take, List.length_drop]; (first | lia | omega)
noncomputable def dig (n : Nat) : Nat → Int → List Int
  | 0, _ => []
  | k + 1, x => x % 2 ^ n :: dig n k (x / 2 ^ n)
theorem dig_len (n : Nat) : ∀ (k : Nat) (x : Int), (dig n k x).length = k
  | 0, _ => rfl
  | k + 1, x => by rw [dig, List.length_cons, dig_len n k]
theorem dig_one {n : Nat} {x : Int} (h0 : 0 ≤ x) (h : x < 2 ^ (n * 1)) : dig n 1 x = [x] := by
  rw [Nat.mul_one] at h
  rw [dig, dig, Int.emod_eq_of_lt h0 h]
theorem dig_append (n : Nat) : ∀ (a b : Nat) (x : Int), dig n (a + b) x = dig n a (x % 2 ^ (n * a)) ++ dig n b (x / 2 ^ (n * a))
  | 0, b, x => by simp [dig]
  | a + 1, b, x => by
    have hP : (0 : Int) < 2 ^ n := kbt_pos n
    have hQ : (0 : Int) < 2 ^ (n * a) := kbt_pos _
    have e : (2 : Int) ^ (n * (a + 1)) = 2 ^ n * 2 ^ (n * a) := by rw [Nat.mul_add, Nat.mul_one, Nat.add_comm, Int.pow_add]
    have e0 : a + 1 + b = (a + b) + 1 := by (first | lia | omega)
    have hm : x % 2 ^ (n * (a + 1)) = x % 2 ^ n + 2 ^ n * (x / 2 ^ n % 2 ^ (n * a)) := by
      have h1 := Int.mul_ediv_add_emod x (2 ^ n)
      have h2 := Int.mul_ediv_add_emod (x / 2 ^ n) (2 ^ (n * a))
      have h3 := Int.mul_ediv_add_emod x (2 ^ (n * (a + 1)))
      have h4 : x / 2 ^ (n * (a + 1)) = x / 2 ^ n / 2 ^ (n * a) := by rw [e, Int.ediv_ediv_of_nonneg (by (first | lia | omega))]
      rw [h4, e, Int.mul_assoc] at h3
      have h5 : 2 ^ n * (2 ^ (n * a) * (x / 2 ^ n / 2 ^ (n * a)) + x / 2 ^ n % 2 ^ (n * a)) = 2 ^ n * (x / 2 ^ n) := by rw [h2]
      rw [Int.mul_add] at h5
      rw [e]
      (first | lia | omega)
    have hd : x % 2 ^ (n * (a + 1)) / 2 ^ n = x / 2 ^ n % 2 ^ (n * a) := by
      rw [hm, Int.add_mul_ediv_left _ _ (by (first | lia | omega)), Int.ediv_eq_zero_of_lt (Int.emod_nonneg _ (by (first | lia | omega))) (Int.emod_lt_of_pos _ hP), Int.zero_add]
    have hr : x % 2 ^ (n * (a + 1)) % 2 ^ n = x % 2 ^ n := by
      rw [hm, Int.add_mul_emod_self_left, Int.emod_emod_of_dvd _ (Int.dvd_refl _)]
    rw [e0, dig, dig_append n a b, dig, List.cons_append, hd, hr, e, Int.ediv_ediv_of_nonneg (by (first | lia | omega))]
theorem and_self (x : Int) : Builtin.bitAnd x x = x := by
  have h1 := bitXor_and x x
  rw [bitXor_self] at h1
  (first | lia | omega)
theorem and_top : ∀ (k : Nat) (u lo : Int), 0 ≤ lo → lo < 2 ^ k → Builtin.bitAnd (u * 2 ^ k + lo) (u * 2 ^ k) = u * 2 ^ k
  | 0, u, lo, h0, h => by
    have e : lo = 0 := by rw [Int.pow_zero] at h; (first | lia | omega)
    subst e
    rw [Int.add_zero, and_self]
  | k + 1, u, lo, h0, h => by
    rw [kbt_halves]
    have e1 : u * 2 ^ (k + 1) = 2 * (u * 2 ^ k) := by rw [Int.pow_succ]; rw [← Int.mul_assoc, Int.mul_comm _ 2]
    have e2 : u * 2 ^ (k + 1) / 2 = u * 2 ^ k := by rw [e1]; (first | lia | omega)
    have e3 : u * 2 ^ (k + 1) % 2 = 0 := by rw [e1]; (first | lia | omega)
    have e4 : (u * 2 ^ (k + 1) + lo) / 2 = u * 2 ^ k + lo / 2 := by rw [e1]; (first | lia | omega)
    rw [e2, e3, e4, and_top k u (lo / 2) (by (first | lia | omega)) (by rw [Int.pow_succ] at h; (first | lia | omega))]
    simp
    rw [e1]
theorem xor_low (x : Int) (k : Nat) : Builtin.bitXor x (x.fdiv (2 ^ k) * 2 ^ k) = x % 2 ^ k := by
  have hP : (0 : Int) < 2 ^ k := kbt_pos k
  have w1 := kbt_whole x k
  have w2 := kbt_rest x k
  have h := bitXor_and x (x.fdiv (2 ^ k) * 2 ^ k)
  have h2 := and_top k (x.fdiv (2 ^ k)) (x.fmod (2 ^ k)) w2.1 w2.2
  rw [w1] at h2
  rw [h, h2, ← Int.fmod_eq_emod_of_nonneg _ (by (first | lia | omega))]
  (first | lia | omega)
theorem take_dig_drop (ds a : List Int) {Lo Hi : Nat} (h1 : Lo ≤ Hi) (h2 : Hi ≤ ds.length) (ha : a.length = Hi - Lo) : (ds.take Lo ++ a ++ ds.drop Hi).length = ds.length := by
  simp only [List.length_append, List.length_take, List.length_drop]
  (first | lia | omega)
theorem put_two (ds A B : List Int) {Lo mid Hi : Nat} (h1 : Lo ≤ mid) (h2 : mid ≤ Hi) (h3 : Hi ≤ ds.length) (hA : A.length = mid - Lo) :
    (ds.take Lo ++ A ++ ds.drop mid).take mid ++ B ++ (ds.take Lo ++ A ++ ds.drop mid).drop Hi = ds.take Lo ++ (A ++ B) ++ ds.drop Hi := by
  have e1 : (ds.take Lo ++ A).length = mid := by rw [List.length_append, List.length_take, hA]; (first | lia | omega)
  have t1 : (ds.take Lo ++ A ++ ds.drop mid).take mid = ds.take Lo ++ A := by
    rw [List.take_append_of_le_length (by (first | lia | omega)), List.take_of_length_le (by (first | lia | omega))]
  have t2 : (ds.take Lo ++ A ++ ds.drop mid).drop Hi = ds.drop Hi := by
    rw [List.drop_append, List.drop_of_length_le (by (first | lia | omega)), List.nil_append, e1, List.drop_drop]
    congr 1; (first | lia | omega)
  rw [t1, t2]
  simp only [List.append_assoc]
theorem put_one (ds : List Int) {Lo : Nat} (x : Int) (h : Lo < ds.length) : ds.set Lo x = ds.take Lo ++ [x] ++ ds.drop (Lo + 1) := by
  rw [List.set_eq_take_append_cons_drop, if_pos h]; simp
section
variable {prog : Program} {w : World} {A : Around} {E : Value → Shared → Prop} {s : Shared} {h₀ : Heap} {L : Addr} {m : PySem.Str → Option Value} {news : Led}
theorem newTuple_L {vs : List Value} {Q : Value → Shared → Prop} (F : Fr h₀ L s.heap m) (N : News h₀ L s.heap news)
    (h : ∀ l h', Fr h₀ L h' m → News h₀ L h' ((l, tupO vs) :: news) → (∀ p ∈ news, p.1 < l) → @LT.lt Nat _ L l → Q (.ref l) { s with heap := h' }) (hsz : vs.length ≤ sizeLine) : wpAny (model prog w) A (newTuple vs) Q E s :=
  newTuple_N F N (fun h' F' N' => h _ h' F' N' (fun p hp => Heap.lt_size (N p hp).1) F.ns.lt) hsz
theorem newList_L {vs : List Value} {Q : Value → Shared → Prop} (F : Fr h₀ L s.heap m) (N : News h₀ L s.heap news)
    (h : ∀ l h', Fr h₀ L h' m → News h₀ L h' ((l, lstO vs) :: news) → (∀ p ∈ news, p.1 < l) → @LT.lt Nat _ L l → Q (.ref l) { s with heap := h' }) (hsz : vs.length ≤ sizeLine) : wpAny (model prog w) A (newList vs) Q E s :=
  newList_N F N (fun h' F' N' => h _ h' F' N' (fun p hp => Heap.lt_size (N p hp).1) F.ns.lt) hsz
theorem divmod_L {a b : Int} {t u : Tok} {Q : Value → Shared → Prop} (F : Fr h₀ L s.heap m) (N : News h₀ L s.heap news) (hb : b ≠ 0)
    (h : ∀ l h' t1 t2 tk, Fr h₀ L h' m → News h₀ L h' ((l, tupO [.int (a.fdiv b) t1, .int (a.fmod b) t2]) :: news) → (∀ p ∈ news, p.1 < l) → @LT.lt Nat _ L l → Q (.ref l) { s with toks := tk, heap := h' })
    (hp : Builtin.divisionGoesByPylong a b = false) : wpAny (model prog w) A (call (.builtin "divmod") [.int a t, .int b u]) Q E s :=
  divmod_N F N hb (fun h' F' N' => h _ h' _ _ _ F' N' (fun p hp => Heap.lt_size (N p hp).1) F.ns.lt) (Or.inl hp)
end
theorem lt_bits {a : Int} {n M : Nat} (h0 : 0 ≤ a) (hn1 : 1 ≤ n) (hM : (Builtin.Int.intBits a + n - 1) / n = M) : a < 2 ^ (n * M) := by
  have h1 : a.natAbs < 2 ^ Builtin.Int.intBits a := intBits_le_iff.mp (Nat.le_refl _)
  have h2 : Builtin.Int.intBits a ≤ n * M := by
    have := Nat.div_add_mod (Builtin.Int.intBits a + n - 1) n
    have := Nat.mod_lt (Builtin.Int.intBits a + n - 1) (y := n) (by (first | lia | omega))
    rw [hM] at *
    (first | lia | omega)
  have h3 : ((a.natAbs : Nat) : Int) < ((2 ^ Builtin.Int.intBits a : Nat) : Int) := Int.ofNat_lt.mpr h1
  rw [kbt_cast] at h3
  have := pow_mono h2
  (first | lia | omega)
theorem whole_dig (ds A : List Int) {M : Nat} (h : ds.length = M) : ds.take 0 ++ A ++ ds.drop M = A := by
  rw [List.drop_of_length_le (by (first | lia | omega))]; simp
section
variable {prog : Program} {w : World} {A : Around} {E : Value → Shared → Prop} {env : Env} {h₀ : Heap} {x : PySem.Str} {body : List Stmt} {Q : Flow → Shared → Prop} {s : Shared} {I : Addr} {lp : Addr × Obj}
theorem rev_ind (Inv : List Value → (PySem.Str → Option Value) → Led → Prop)
    (h0 : ∀ m news, Inv [] m news → ∀ h tk, Fr h₀ env.locals h m → News h₀ env.locals h news → Q .next { s with heap := h, toks := tk })
    (h1 : ∀ v r m news, Inv (v :: r) m news → ∀ (it : Obj) h tk, it.cls = .type "list_reverseiterator" → Fr h₀ env.locals h (fun y => if y = x then some v else m y) → News h₀ env.locals h ((I, it) :: news) →
      wpAny (model prog w) A (execs body env) (UnrPost h₀ env.locals { s with heap := h, toks := tk } I it (fun m' n' => lp ∈ n' ∧ Inv r m' n') Q) E { s with heap := h, toks := tk }) :
    ∀ vs m news, Inv vs m news → RevRest prog w A E h₀ env x body Q s I lp vs m news
  | [], m, news, hi => fun h tk F N => h0 m news hi h tk F N
  | v :: r, m, news, hi => fun it h tk hc F N => wpAny_mono (h1 v r m news hi it h tk hc F N) (fun f s' hp => by
      cases f with
      | ret v => exact hp
      | brk => exact hp
      | next => obtain ⟨h', tk', m', n', e, F', N', off, l, i⟩ := hp; exact ⟨h', tk', m', n', e, F', N', off, l, rev_ind Inv h0 h1 r m' n' i⟩
      | cont => obtain ⟨h', tk', m', n', e, F', N', off, l, i⟩ := hp; exact ⟨h', tk', m', n', e, F', N', off, l, rev_ind Inv h0 h1 r m' n' i⟩) fun _ _ e => e
end
theorem undig_dig (n : Nat) : ∀ (k : Nat) (x : Int), 0 ≤ x → x < 2 ^ (n * k) → undig n (dig n k x) = x
  | 0, x, h0, h => by rw [Nat.mul_zero, Int.pow_zero] at h; simp only [dig, undig]; (first | lia | omega)
  | k + 1, x, h0, h => by
    have hP : (0 : Int) < 2 ^ n := kbt_pos n
    rw [dig, undig, undig_dig n k (x / 2 ^ n) (Int.ediv_nonneg h0 (by (first | lia | omega))) ((Int.ediv_lt_iff_lt_mul hP).mpr (by rw [← Int.pow_add, Nat.mul_comm n k, ← Nat.succ_mul, Nat.mul_comm]; exact h))]
    exact Int.emod_add_mul_ediv x (2 ^ n)
theorem dig_range (n : Nat) : ∀ (k : Nat) (x : Int), ∀ d ∈ dig n k x, 0 ≤ d ∧ d < 2 ^ n
  | 0, _, d, h => nomatch h
  | k + 1, x, d, h => by
    have hP : (0 : Int) < 2 ^ n := kbt_pos n
    rcases List.mem_cons.mp h with rfl | h
    · exact ⟨Int.emod_nonneg _ (by (first | lia | omega)), Int.emod_lt_of_pos _ hP⟩
    · exact dig_range n k _ d h
noncomputable def CodeAt (q : PySem.Str) (oc : Obj) : Prop := ∃ vs t, oc.data = .fields vs ∧ vs[1]? = some (.str q t)
theorem intsAre_app {a b : List Value} {x y : List Int} (h : IntsAre a x) (h2 : IntsAre b y) : IntsAre (a ++ b) (x ++ y) := by
  induction h with
  | nil => exact h2
  | cons n t _ ih => exact .cons n t ih
theorem intsAre_snoc {vs : List Value} {ns : List Int} (h : IntsAre vs ns) (x : Int) (t : Tok) : IntsAre (vs ++ [.int x t]) (ns ++ [x]) := intsAre_app h (.cons x t .nil)
theorem intsAre_rev {vs : List Value} {ns : List Int} (h : IntsAre vs ns) : IntsAre vs.reverse ns.reverse := by
  induction h with
  | nil => exact .nil
  | cons n t _ ih => rw [List.reverse_cons, List.reverse_cons]; exact intsAre_snoc ih n t
theorem ld_step {n : Nat} {Hs qs : List Int} {b r d q rm : Int} (h : undig n Hs = undig n qs.reverse * b + r) (h2 : q * b + rm = r * 2 ^ n + d) : undig n (d :: Hs) = undig n (qs ++ [q]).reverse * b + rm := by
  rw [List.reverse_append, List.reverse_singleton, List.singleton_append, undig, undig, h]
  generalize undig n qs.reverse = X
  generalize (2 : Int) ^ n = P at *
  grind
theorem room0 {dp n : Nat} (h : dp + n < recursionLimit) : dp < recursionLimit := Nat.lt_of_le_of_lt (Nat.le_add_right _ _) h
theorem room1 {dp n j m : Nat} (h : dp + n < recursionLimit) (e : Nat.ble (j + m) n = true) : dp + j + m < recursionLimit := by
  have := Nat.le_of_ble_eq_true e; (first | lia | omega)
theorem units1 {un n j m : Nat} (h : un + 8 * n < cLine) (e : Nat.ble (j + 8 * m) (8 * n) = true) : un + j + 8 * m < cLine := by
  have := Nat.le_of_ble_eq_true e; (first | lia | omega)
inductive PIntN (NN : Led) (v : Int) (n' : Led) (r : Value) : Prop
  | mk (h : n' = NN) (t : Tok) (e : r = .int v t)
inductive PIntT (NN : Led) (v : Int) (n' : Led) (r : Value) : Prop
  | mk (t : Tok) (h : n' = NN) (e : r = .int v t)
theorem see5 {h₀ h : Heap} {L : Addr} {m : PySem.Str → Option Value} {x1 x2 x3 x4 x5 : PySem.Str} {v1 v2 v3 v4 v5 : Value} (F : Fr h₀ L h m) (e1 : m x1 = some v1) (e2 : m x2 = some v2) (e3 : m x3 = some v3) (e4 : m x4 = some v4) (e5 : m x5 = some v5) : Fr h₀ L h (fun y => if y = x1 then some v1 else if y = x2 then some v2 else if y = x3 then some v3 else if y = x4 then some v4 else if y = x5 then some v5 else m y) := by
  have q : (fun y => if y = x1 then some v1 else if y = x2 then some v2 else if y = x3 then some v3 else if y = x4 then some v4 else if y = x5 then some v5 else m y) = m := by
    funext y
    by_cases h1 : y = x1
    · rw [if_pos h1, h1, e1]
    rw [if_neg h1]
    by_cases h2 : y = x2
    · rw [if_pos h2, h2, e2]
    rw [if_neg h2]
    by_cases h3 : y = x3
    · rw [if_pos h3, h3, e3]
    rw [if_neg h3]
    by_cases h4 : y = x4
    · rw [if_pos h4, h4, e4]
    rw [if_neg h4]
    by_cases h5 : y = x5
    · rw [if_pos h5, h5, e5]
    rw [if_neg h5]
  rw [q]; exact F
theorem see6 {h₀ h : Heap} {L : Addr} {m : PySem.Str → Option Value} {x1 x2 x3 x4 x5 x6 : PySem.Str} {v1 v2 v3 v4 v5 v6 : Value} (F : Fr h₀ L h m) (e1 : m x1 = some v1) (e2 : m x2 = some v2) (e3 : m x3 = some v3) (e4 : m x4 = some v4) (e5 : m x5 = some v5) (e6 : m x6 = some v6) : Fr h₀ L h (fun y => if y = x1 then some v1 else if y = x2 then some v2 else if y = x3 then some v3 else if y = x4 then some v4 else if y = x5 then some v5 else if y = x6 then some v6 else m y) := by
  have q : (fun y => if y = x1 then some v1 else if y = x2 then some v2 else if y = x3 then some v3 else if y = x4 then some v4 else if y = x5 then some v5 else if y = x6 then some v6 else m y) = m := by
    funext y
    by_cases h1 : y = x1
    · rw [if_pos h1, h1, e1]
    rw [if_neg h1]
    by_cases h2 : y = x2
    · rw [if_pos h2, h2, e2]
    rw [if_neg h2]
    by_cases h3 : y = x3
    · rw [if_pos h3, h3, e3]
    rw [if_neg h3]
    by_cases h4 : y = x4
    · rw [if_pos h4, h4, e4]
    rw [if_neg h4]
    by_cases h5 : y = x5
    · rw [if_pos h5, h5, e5]
    rw [if_neg h5]
    by_cases h6 : y = x6
    · rw [if_pos h6, h6, e6]
    rw [if_neg h6]
  rw [q]; exact F
theorem see7 {h₀ h : Heap} {L : Addr} {m : PySem.Str → Option Value} {x1 x2 x3 x4 x5 x6 x7 : PySem.Str} {v1 v2 v3 v4 v5 v6 v7 : Value} (F : Fr h₀ L h m) (e1 : m x1 = some v1) (e2 : m x2 = some v2) (e3 : m x3 = some v3) (e4 : m x4 = some v4) (e5 : m x5 = some v5) (e6 : m x6 = some v6) (e7 : m x7 = some v7) : Fr h₀ L h (fun y => if y = x1 then some v1 else if y = x2 then some v2 else if y = x3 then some v3 else if y = x4 then some v4 else if y = x5 then some v5 else if y = x6 then some v6 else if y = x7 then some v7 else m y) := by
  have q : (fun y => if y = x1 then some v1 else if y = x2 then some v2 else if y = x3 then some v3 else if y = x4 then some v4 else if y = x5 then some v5 else if y = x6 then some v6 else if y = x7 then some v7 else m y) = m := by
    funext y
    by_cases h1 : y = x1
    · rw [if_pos h1, h1, e1]
    rw [if_neg h1]
    by_cases h2 : y = x2
    · rw [if_pos h2, h2, e2]
    rw [if_neg h2]
    by_cases h3 : y = x3
    · rw [if_pos h3, h3, e3]
    rw [if_neg h3]
    by_cases h4 : y = x4
    · rw [if_pos h4, h4, e4]
    rw [if_neg h4]
    by_cases h5 : y = x5
    · rw [if_pos h5, h5, e5]
    rw [if_neg h5]
    by_cases h6 : y = x6
    · rw [if_pos h6, h6, e6]
    rw [if_neg h6]
    by_cases h7 : y = x7
    · rw [if_pos h7, h7, e7]
    rw [if_neg h7]
  rw [q]; exact F
theorem see8 {h₀ h : Heap} {L : Addr} {m : PySem.Str → Option Value} {x1 x2 x3 x4 x5 x6 x7 x8 : PySem.Str} {v1 v2 v3 v4 v5 v6 v7 v8 : Value} (F : Fr h₀ L h m) (e1 : m x1 = some v1) (e2 : m x2 = some v2) (e3 : m x3 = some v3) (e4 : m x4 = some v4) (e5 : m x5 = some v5) (e6 : m x6 = some v6) (e7 : m x7 = some v7) (e8 : m x8 = some v8) : Fr h₀ L h (fun y => if y = x1 then some v1 else if y = x2 then some v2 else if y = x3 then some v3 else if y = x4 then some v4 else if y = x5 then some v5 else if y = x6 then some v6 else if y = x7 then some v7 else if y = x8 then some v8 else m y) := by
  have q : (fun y => if y = x1 then some v1 else if y = x2 then some v2 else if y = x3 then some v3 else if y = x4 then some v4 else if y = x5 then some v5 else if y = x6 then some v6 else if y = x7 then some v7 else if y = x8 then some v8 else m y) = m := by
    funext y
    by_cases h1 : y = x1
    · rw [if_pos h1, h1, e1]
    rw [if_neg h1]
    by_cases h2 : y = x2
    · rw [if_pos h2, h2, e2]
    rw [if_neg h2]
    by_cases h3 : y = x3
    · rw [if_pos h3, h3, e3]
    rw [if_neg h3]
    by_cases h4 : y = x4
    · rw [if_pos h4, h4, e4]
    rw [if_neg h4]
    by_cases h5 : y = x5
    · rw [if_pos h5, h5, e5]
    rw [if_neg h5]
    by_cases h6 : y = x6
    · rw [if_pos h6, h6, e6]
    rw [if_neg h6]
    by_cases h7 : y = x7
    · rw [if_pos h7, h7, e7]
    rw [if_neg h7]
    by_cases h8 : y = x8
    · rw [if_pos h8, h8, e8]
    rw [if_neg h8]
  rw [q]; exact F
noncomputable def AllImp (d : Addr) (P : Prop) : Led → Prop
  | [] => P
  | p :: r => @LT.lt Nat _ p.1 d → AllImp d P r
theorem allImp_of {d : Addr} {P : Prop} : ∀ {l : Led}, (∀ p ∈ l, @LT.lt Nat _ p.1 d) → AllImp d P l → P
  | [], _, h => h
  | p :: _, a, h => allImp_of (fun q hq => a q (.tail _ hq)) (h (a p (.head _)))
theorem allImp_all {d : Addr} {P : Prop} (h : P) : ∀ l : Led, AllImp d P l
  | [] => h
  | _ :: r => fun _ => allImp_all h r
theorem allImp_tl {d : Addr} {P : Prop} : ∀ {l : Led}, (AllLt d l → P) → AllImp d P l
  | [], h => h trivial
  | _ :: _, h => fun a => allImp_tl fun b => h ⟨a, b⟩
section
variable {w : World} {prog : Program} {A : Around} {a n : Int} {t u : Tok} {E Q : Value → Shared → Prop} {s : Shared}
theorem lshX (hn : 0 ≤ n) (ha : Builtin.Int.intBits a ≤ 100000000) (hm : n ≤ 1000000) (h : Q (.int (a * 2 ^ n.toNat) s.toks) { s with toks := s.toks + 1 }) : wpAny (model prog w) A (binaryOp .LShift (.int a t) (.int n u)) Q E s :=
  lshift_int hn (kbm_shl ha hm (by decide)) h
theorem ilshX (hn : 0 ≤ n) (ha : Builtin.Int.intBits a ≤ 100000000) (hm : n ≤ 1000000) (h : Q (.int (a * 2 ^ n.toNat) s.toks) { s with toks := s.toks + 1 }) : wpAny (model prog w) A (inplaceOp .LShift (.int a t) (.int n u)) Q E s :=
  ilshift_int hn (kbm_shl ha hm (by decide)) h
theorem mulX (ha : Builtin.Int.intBits a ≤ 60000000) (hb : Builtin.Int.intBits n ≤ 60000000) (h : Q (.int (a * n) s.toks) { s with toks := s.toks + 1 }) : wpAny (model prog w) A (binaryOp .Mult (.int a t) (.int n u)) Q E s :=
  PyProof.Rows.mul_int h (IntMulOk.of_le ha hb (by decide))
end
end
section
open PySem PySem.W PySem.Spec PySem.Calls PyProof.Rows
local macro_rules | `(tactic| ktr_rel) => `(tactic| repeat' first | refine ib_add ?_ ?_ (by omega) | refine ib_sub ?_ ?_ (by omega) | refine ib_mul ?_ ?_ | exact ib_pow (by omega) (by omega) | omega)
local macro_rules | `(tactic| walk_at "binaryOp LShift int int") => `(tactic| (refine lshX (by omega) (by ktr_rel) (by omega) ?_))
local macro_rules | `(tactic| walk_at "inplaceOp LShift int int") => `(tactic| (refine ilshX (by omega) (by ktr_rel) (by omega) ?_))
local macro_rules | `(tactic| walk_at "binaryOp RShift int int") => `(tactic| (refine rshift_int (by omega) ?_))
local macro_rules | `(tactic| walk_at "inplaceOp RShift int int") => `(tactic| (refine irshift_int (by omega) ?_))
local macro_rules | `(tactic| walk_at "binaryOp Mult int int") => `(tactic| (refine mulX (by ktr_rel) (by ktr_rel) ?_))
local macro_rules | `(tactic| ktr_enter) => `(tactic| (k_dflt (k_whole; intro _ _ _ _ _ _ _ _ _ l1 _ _; (try k_lt l1); (try dsimp only); (try k_fold))))
local macro_rules | `(tactic| ktr_step) => `(tactic| (k_dflt (k_whole; intro _ _ _ _ _ _ _ N' Y' B' _ _ l1 _ _; (try k_lt l1); k_cells Y'; (try simp only [List.cons_append, List.nil_append] at N'); (try dsimp only); (try k_lift B'); (try k_fold))))
local macro_rules | `(tactic| tb_start) => `(tactic| (k_dflt (k_whole; intro _ _ _ _ _ _ B' _ _ l1 _ _; (try k_lt l1); (try dsimp only); (try k_lift B'); (try k_fold))))
local macro_rules | `(tactic| k_allIn) => `(tactic| first | (refine List.forall_mem_cons.mpr ⟨by k_mem, ?_⟩; k_allIn) | exact List.forall_mem_nil _)
local macro_rules | `(tactic| walk_at "newTuple") => `(tactic| (k_here; k_dflt (refine newTuple_L (by k_asm) (by k_asm) ?_ (by first | decide | size_fits)); intro _ _ _ _ l1 _; (try k_lt l1); (try k_sweep)))
local macro_rules | `(tactic| walk_at "newList") => `(tactic| (k_here; k_dflt (refine newList_L (by k_asm) (by k_asm) ?_ (by first | decide | size_fits)); intro _ _ _ _ l1 _; (try k_lt l1); (try k_sweep)))
local macro_rules | `(tactic| walk_at "call builtin:divmod") => `(tactic| (k_here; k_dflt (refine divmod_L (by k_asm) (by k_asm) (by assumption) ?_ (by assumption)); intro _ _ _ _ _ _ _ l1 _; (try k_lt l1); (try k_sweep)))
local macro_rules | `(tactic| k_ne) => `(tactic| first | exact Nat.ne_of_lt (by assumption) | exact Nat.ne_of_gt (by assumption) | assumption | exact Ne.symm (by assumption) | (refine neN ?_; (try dsimp only); first | lia | omega))
theorem offD3 : True := by
  w_top off
  exact True.intro
section
open PySem PySem.W PySem.Spec PySem.Calls PyProof.Rows
noncomputable def topFn (k : Nat) : List Stmt × Scope :=
  match PySem.Challenge.pw_wy0040_01.main.body[k]? with
  | some (.FunctionDef _ _ body _ _ _ sc _ _ _) => (body, sc)
  | _ => default
noncomputable def forBody (i : Nat) (l : List Stmt) : List Stmt :=
  match l[i]? with
  | some (.For _ _ body _ _) => body
  | _ => []
inductive IsDM (a b : Int) (bd : Nat) (n' : Led) (r : Value) : Prop
  | mk (T : Nat) (q rm : Int) (t1 t2 : Tok) (h1 : @LT.lt Nat _ bd T) (h2 : r = .ref T) (h3 : n' = [(T, tupO [.int q t1, .int rm t2])]) (h4 : q * b + rm = a) (h5 : 0 ≤ rm) (h6 : rm < b)
section
variable {w : World} {p : Program} {loose : List PySem.Str} {mean : ExcName → Option Value} {mg mb : PySem.Str → Option Value}
noncomputable def D2 (w : World) (p : Program) (loose : List PySem.Str) (mean : ExcName → Option Value) (mg mb : PySem.Str → Option Value) (n : Nat) (need : Nat) : Prop :=
  ∀ (a b : Int) (ta tb tn : Tok), 0 ≤ a → 0 < b → 2 ^ n ≤ 2 * b → b < 2 ^ n → a < b * 2 ^ n → Ok w p loose mean mg mb 38 [.int a ta, .int b tb, .int (n : Int) tn] need [] (IsDM a b)
inductive D3J (b X : Int) (t3 : Tok) (k : Nat) (m' : PySem.Str → Option Value) (n' : Led) : Prop
  | mk (e : n' = []) (qq rr : Int) (tq tr : Tok) (a1 : m' "r" = some (.int rr tr)) (a2 : m' "q" = some (.int qq tq)) (a3 : m' "b" = some (.int b t3)) (h : qq * b + rr = X) (hr : rr < b) (hk : k = (-rr).toNat)
set_option maxHeartbeats 4000000 in
theorem d3Tail {stm : List Stmt} {scope : Scope} (hb : (stm, scope) = ((topFn 4).1.drop 1, (topFn 4).2))
    {dp un : Nat} {gd : Option (List Code)} {cn : PySem.Str} {cs : Scope} {L fa LL : Addr} {ccd : Value} {cl : List (PySem.Str × Addr)} {outer : List Env} {base gg : Heap} {m : PySem.Str → Option Value} {s : Shared} {E : Value → Shared → Prop} {Q : Flow → Shared → Prop}
    {n : Nat} {a3 b b2 q r X : Int} {t2 t3 t5 t6 tq tr : Tok} {nw : Led} (BB : Below (ktrTop dp un gd cn cs L fa ccd cl outer) base (envX cn cs L fa ccd cl :: outer) gg) (XX : (Mine.hd.heap_1 w.params).In gg) (TT : Top p loose mean mg mb gg) (hE : PassesOwn (model PySem.Challenge.rw_wy0040_01.row.toRowW.prog w) ((ktrTop dp un gd cn cs L fa ccd cl outer).deeper (envOf "_div3n2n" scope LL 45 (.ref 44))) (envOf "_div3n2n" scope LL 45 (.ref 44)) E)
    (hn : n ≤ 9000) (hbp : 0 < b) (e2 : Builtin.Int.intBits b2 ≤ 9000) (e5 : Builtin.Int.intBits q ≤ 33000) (e6 : Builtin.Int.intBits r ≤ 33000) (hs : q * b + (Builtin.bitOr (r * 2 ^ n) a3 - q * b2) = X) (hl : Builtin.bitOr (r * 2 ^ n) a3 - q * b2 < b)
    (F : Fr gg LL s.heap fun y => if y = "q" then some (.int q tq) else if y = "r" then some (.int r tr) else if y = "n" then some (.int (n : Int) t6) else if y = "a3" then some (.int a3 t2) else if y = "b2" then some (.int b2 t5) else if y = "b" then some (.int b t3) else m y)
    (N : News gg LL s.heap nw)
    (ret : ∀ h' tk T q r t1 t2 (m' : PySem.Str → Option Value), @LT.lt Nat _ LL T → q * b + r = X → 0 ≤ r → r < b → Fr gg LL h' m' → News gg LL h' [(T, tupO [.int q t1, .int r t2])] → Q (.ret (.ref T)) { s with heap := h', toks := tk }) :
    wpAny (model PySem.Challenge.rw_wy0040_01.row.toRowW.prog w) ((ktrTop dp un gd cn cs L fa ccd cl outer).deeper (envOf "_div3n2n" scope LL 45 (.ref 44))) (execs stm (envOf "_div3n2n" scope LL 45 (.ref 44))) Q E s := by
  conv at hb => {rhs; arg 1; whnf}
  conv at hb => {rhs; arg 2; whnf}
  simp only [Prod.mk.injEq] at hb
  obtain ⟨rfl, rfl⟩ := hb
  revert XX
  k_fill
  intro XX
  try dsimp only
  (repeat' (first | (k_unfold; (try dsimp only)) | ((fail_if_success (with_reducible first | show wpAny _ _ (PySem.call (Value.ref 38) _) _ _ _ | show wpAny _ _ (exec (PySem.Stmt.While _ _ _ _) _) _ _ _ | show _ ≤ _)); (first | walk1 | (dsimp only; walk1)) <;> (try dsimp only)) | (leave1; try dsimp only) | fail "no step"))
  refine While_inv (n₀ := _) (news := []) (D3J b X t3) (by k_asm) (fun _ h => nomatch h) ⟨rfl, _, _, _, _, rfl, rfl, rfl, ?_, ?_, rfl⟩ ?_ (hE := hE)
  · rw [Int.toNat_natCast]; exact hs
  · rw [Int.toNat_natCast]; exact hl
  rintro k m1 n1 h1 tk1 F1 N1 ⟨rfl, qq, rr, tq, tr, hm1, hm2, hm3, hqr, hrb, rfl⟩
  replace F1 := see3 F1 hm1 hm2 hm3
  (repeat' (first | (k_unfold; (try dsimp only)) | ((fail_if_success (with_reducible first | show wpAny _ _ (PySem.call (Value.ref 38) _) _ _ _ | show wpAny _ _ (exec (PySem.Stmt.While _ _ _ _) _) _ _ _ | show _ ≤ _)); (first | walk1 | (dsimp only; walk1)) <;> (try dsimp only)) | (leave1; try dsimp only) | fail "no step"))
  · have hneg : rr < 0 := by assumption
    exact WhileStep.intro (n' := (-(rr + b)).toNat) (by k_asm) (by k_asm) (by (first | lia | omega)) ⟨rfl, _, _, _, _, rfl, rfl, rfl, by rw [Int.sub_mul]; (first | lia | omega), by (first | lia | omega), rfl⟩
  · have hpos : ¬ rr < 0 := by assumption
    (rename News _ _ _ _ => lN); (rename Fr _ _ _ _ => lF)
    exact ret _ _ _ _ _ _ _ _ (by assumption) hqr (by (first | lia | omega)) hrb lF lN
set_option maxHeartbeats 4000000 in
theorem d3Head {stm rest : List Stmt} {scope : Scope} (hb : (stm, scope) = ((topFn 4).1.take 1, (topFn 4).2))
    {dp un : Nat} {gd : Option (List Code)} {cn : PySem.Str} {cs : Scope} {L fa LL : Addr} {ccd : Value} {cl : List (PySem.Str × Addr)} {outer : List Env} {base gg : Heap} {m : PySem.Str → Option Value} {s : Shared} {E : Value → Shared → Prop} {Q : Flow → Shared → Prop}
    {n need : Nat} {a12 a3 b b1 b2 : Int} {t1 t2 t3 t4 t5 t6 : Tok} (IH : D2 w p loose mean mg mb n need) (BB : Below (ktrTop dp un gd cn cs L fa ccd cl outer) base (envX cn cs L fa ccd cl :: outer) gg) (XX : (Mine.hd.heap_1 w.params).In gg) (TT : Top p loose mean mg mb gg) (hC : Codes base) (hd : dp + (need + 1) < recursionLimit) (hu : un + 8 * (need + 1) < cLine)
    (hn : n ≤ 9000) (h1 : 0 ≤ a12) (h2 : a12 < b) (h3 : 0 ≤ a3) (h4 : a3 < 2 ^ n) (h5 : b = b1 * 2 ^ n + b2) (h6 : 0 ≤ b2) (h7 : b2 < 2 ^ n) (h8 : 0 < b1) (h9 : 2 ^ n ≤ 2 * b1) (h10 : b1 < 2 ^ n)
    (F : Fr gg LL s.heap fun y => if y = "a12" then some (.int a12 t1) else if y = "a3" then some (.int a3 t2) else if y = "b" then some (.int b t3) else if y = "b1" then some (.int b1 t4) else if y = "b2" then some (.int b2 t5) else if y = "n" then some (.int (n : Int) t6) else m y)
    (N : News gg LL s.heap [])
    (ret : ∀ h' tk q r tq tr nw (m' : PySem.Str → Option Value), Builtin.Int.intBits q ≤ 33000 → Builtin.Int.intBits r ≤ 33000 → q * b + (Builtin.bitOr (r * 2 ^ n) a3 - q * b2) = a12 * 2 ^ n + a3 → Builtin.bitOr (r * 2 ^ n) a3 - q * b2 < b →
      Fr gg LL h' (fun y => if y = "q" then some (.int q tq) else if y = "r" then some (.int r tr) else if y = "n" then some (.int (n : Int) t6) else if y = "a3" then some (.int a3 t2) else if y = "b2" then some (.int b2 t5) else if y = "b" then some (.int b t3) else m' y) → News gg LL h' nw →
      wpAny (model PySem.Challenge.rw_wy0040_01.row.toRowW.prog w) ((ktrTop dp un gd cn cs L fa ccd cl outer).deeper (envOf "_div3n2n" scope LL 45 (.ref 44))) (execs rest (envOf "_div3n2n" scope LL 45 (.ref 44))) Q E { s with heap := h', toks := tk }) :
    wpAny (model PySem.Challenge.rw_wy0040_01.row.toRowW.prog w) ((ktrTop dp un gd cn cs L fa ccd cl outer).deeper (envOf "_div3n2n" scope LL 45 (.ref 44))) (execs (stm ++ rest) (envOf "_div3n2n" scope LL 45 (.ref 44))) Q E s := by
  conv at hb => {rhs; arg 1; whnf}
  conv at hb => {rhs; arg 2; whnf}
  simp only [Prod.mk.injEq] at hb
  obtain ⟨rfl, rfl⟩ := hb
  revert XX
  k_fill
  intro XX
  simp only [List.take_succ_cons, List.take_zero, List.cons_append, List.nil_append]
  try dsimp only
  have hP : (0 : Int) < 2 ^ n := kbt_pos n
  have hb : b < 2 ^ 32000 := two_lt h5 h7 h10 (by (first | lia | omega))
  have e1 : Builtin.Int.intBits b1 ≤ 9000 := Nat.le_trans (bits_of (by (first | lia | omega)) h10) hn
  have e3 : Builtin.Int.intBits a12 ≤ 32000 := bits_of h1 (by (first | lia | omega))
  have e4 : Builtin.Int.intBits 1 ≤ 1 := by decide
  have ep : Builtin.Int.intBits ((2 : Int) ^ n) ≤ 9001 := Nat.le_trans (bits_of (m := n + 1) (Int.le_of_lt hP) (by rw [Int.pow_succ]; (first | lia | omega))) (by (first | lia | omega))
  (repeat' (first | (k_unfold; (try dsimp only)) | ((fail_if_success (with_reducible first | show wpAny _ _ (PySem.call (Value.ref 38) _) _ _ _ | show wpAny _ _ (exec (PySem.Stmt.While _ _ _ _) _) _ _ _ | show _ ≤ _)); (first | walk1 | (dsimp only; walk1)) <;> (try dsimp only)) | (leave1; try dsimp only) | fail "no step"))
  rotate_left
  · have hne : a12.fdiv (2 ^ (n : Int).toNat) ≠ b1 := by assumption
    rw [Int.toNat_natCast] at hne
    (k_dflt (refine' Ok.use ?k1n1 ?k2n1 ?k3n1 ?k4n1 ?k5n1 ?kKn1 ?kCn1 (IH a12 b1 _ _ _ h1 h8 h9 h10 (lt_of_fdiv_ne hP h5 h2 h7 hne)) ?kPn1 ?kapn1 ?kdn1 ?kun1 ?_); (case k1n1 | k2n1 | k3n1 | k4n1 | k5n1 => k_asm); (case kKn1 => exact rfl); (case kCn1 => assumption); (case kPn1 => (repeat' first | exact Picks.nil | (with_reducible exact Pick.head) | apply Picks.cons | apply Pick.tail)); (case kapn1 => (k_whole; unfold Apart; repeat' (first | exact List.forall_mem_nil _ | (refine List.forall_mem_cons.mpr ⟨?_, ?_⟩) | k_ne))); (case kdn1 => (first | exact room1 (by assumption) rfl | exact room0 (by assumption) | ktr_room)); (case kun1 => (first | exact units1 (by assumption) rfl | ktr_units)))
    intro b9 r9 n9 h9' tk9 U9 F9 N9 hp9
    obtain ⟨T9, q, rm, t91, t92, lT9, rfl, rfl, hq, hr0, hr1⟩ := hp9
    have hq0 : 0 ≤ q := q_nonneg hq h1 hr1 h8
    have e5 : Builtin.Int.intBits q ≤ 32000 := bits_of hq0 (by have := q_le hq hq0 h8 hr0; (first | lia | omega))
    have e6 : Builtin.Int.intBits rm ≤ 32000 := bits_of hr0 (by have := pow_mono (m := n) (k := 32000) (by (first | lia | omega)); (first | lia | omega))
    try dsimp only
    (repeat' (first | (k_unfold; (try dsimp only)) | ((fail_if_success (with_reducible first | show wpAny _ _ (PySem.call (Value.ref 38) _) _ _ _ | show wpAny _ _ (exec (PySem.Stmt.While _ _ _ _) _) _ _ _ | show _ ≤ _)); (first | walk1 | (dsimp only; walk1)) <;> (try dsimp only)) | (leave1; try dsimp only) | fail "no step"))
    (rename News _ _ _ _ => lN); (rename Fr _ _ _ _ => lF)
    refine ret _ _ _ _ _ _ _ _ (Nat.le_trans e5 (by decide)) (Nat.le_trans e6 (by decide)) ?_ ?_ (see6 lF rfl rfl rfl rfl rfl rfl) lN
    · rw [or_low h3 h4]; exact m3_sum hq h5
    · rw [or_low h3 h4]; exact m3_low hq h5 h1 hr1 h8 h4 h6 hP
  · (rename News _ _ _ _ => lN); (rename Fr _ _ _ _ => lF)
    refine ret _ _ _ _ _ _ _ _ ?_ ?_ ?_ ?_ (see6 lF rfl rfl rfl rfl rfl rfl) lN
    · rw [Int.toNat_natCast, Int.one_mul]; exact Nat.le_trans (intBits_sub_le ep e4) (by decide)
    · rw [Int.toNat_natCast]; exact Nat.le_trans (intBits_add_le (intBits_sub_le e3 (intBits_mul_le e1 ep)) e1) (by decide)
    · rw [Int.toNat_natCast, or_low h3 h4, Int.one_mul]; exact m3_sum m3_topsum h5
    · rw [Int.toNat_natCast, or_low h3 h4, Int.one_mul]; exact m3_top h5 h2 h4 hP
set_option maxHeartbeats 4000000 in
theorem div3 {n need : Nat} (IH : D2 w p loose mean mg mb n need) (hn : n ≤ 9000) (a12 a3 b b1 b2 : Int) (t1 t2 t3 t4 t5 t6 : Tok)
    (h1 : 0 ≤ a12) (h2 : a12 < b) (h3 : 0 ≤ a3) (h4 : a3 < 2 ^ n) (h5 : b = b1 * 2 ^ n + b2) (h6 : 0 ≤ b2) (h7 : b2 < 2 ^ n) (h8 : 0 < b1) (h9 : 2 ^ n ≤ 2 * b1) (h10 : b1 < 2 ^ n) :
    Ok w p loose mean mg mb 45 [.int a12 t1, .int a3 t2, .int b t3, .int b1 t4, .int b2 t5, .int (n : Int) t6] (need + 1) [] (IsDM (a12 * 2 ^ n + a3) b) := by
  have e2 : Builtin.Int.intBits b2 ≤ 9000 := Nat.le_trans (bits_of h6 h7) hn
  unfold Ok
  k_fill
  intro dp un gd cn cs fa ccd cl outer A₀ base h₀ L m s rest Q E B F X N ap T hk hC hd hu hret
  refine wpAny_call ?_
  (k_dflt (refine' code_defR ?k1n2 ?k2n2 ?k3n2 ?k4n2 ?kapn2 ?k5n2 ?kAn2 ?kFn2 ?kKn2 ?k6n2 ?k7n2 ?k8n2 ?k9n2 ?kBn2 ?_ ?c2n2 ?c3n2 ?c4n2 ?c5n2; (case kAn2 | kFn2 => exact rfl); (case kKn2 | k4n2 | kapn2 => assumption); (case k1n2 | k2n2 | k3n2 | k5n2 => k_asm); (case k6n2 | k7n2 => k_is); (case k8n2 => (first | exact room1 (by assumption) rfl | exact room0 (by assumption) | ktr_room)); (case k9n2 => first | exact BindsTo.of_eq rfl | exact binds_K (by k_in) rfl (by k_is) rfl rfl rfl | (refine' kp_binds ?kxn2 ?ken2; (case kxn2 => k_in); (case ken2 => exact fun _ => rfl))); (case c5n2 => decide); (case kBn2 => exact locs rfl); (case c2n2 | c3n2 | c4n2 => exact rfl))); ktr_enter
  (rename Fr _ _ _ _ => lF0)
  replace lF0 := see6 lF0 (x1 := "a12") (x2 := "a3") (x3 := "b") (x4 := "b1") (x5 := "b2") (x6 := "n") rfl rfl rfl rfl rfl rfl
  rename_i gg LL hh FG NN BB XX TT hRs hU l0
  refine d3Head (stm := (topFn 4).1.take 1) (rest := (topFn 4).1.drop 1) rfl IH BB XX TT hC hd hu hn h1 h2 h3 h4 h5 h6 h7 h8 h9 h10 lF0 (by assumption) ?_
  intro h' tk q r tq tr nw m1 e5 e6 hs hl F1 N1
  refine d3Tail rfl BB XX TT (by passes_own) hn (by (first | lia | omega)) e2 e5 e6 hs hl F1 N1 ?_
  intro h'' tk2 T q r t1 t2 m2 lT hqr hr0 hrb F2 N2
  (repeat' (first | (k_unfold; (try dsimp only)) | ((fail_if_success (with_reducible first | show wpAny _ _ (PySem.call (Value.ref 38) _) _ _ _ | show wpAny _ _ (exec (PySem.Stmt.While _ _ _ _) _) _ _ _ | show _ ≤ _)); (first | walk1 | (dsimp only; walk1)) <;> (try dsimp only)) | (leave1; try dsimp only) | fail "no step"))
  exact hret _ _ _ _ _ (by assumption) (by k_asm) (rests (by assumption) N (by assumption) (by assumption)) ⟨_, _, _, _, _, (by assumption), rfl, rfl, hqr, hr0, hrb⟩
end
end
theorem offD2 : True := by
  w_top off
  exact True.intro
section
open PySem PySem.W PySem.Spec PySem.Calls PyProof.Rows
section
variable {w : World} {p : Program} {loose : List PySem.Str} {mean : ExcName → Option Value} {mg mb : PySem.Str → Option Value}
set_option maxHeartbeats 4000000 in
theorem d2Tail {stm : List Stmt} {scope : Scope} (hb : (stm, scope) = ((topFn 3).1.drop 3, (topFn 3).2))
    {dp un : Nat} {gd : Option (List Code)} {cn : PySem.Str} {cs : Scope} {L fa LL : Addr} {ccd : Value} {cl : List (PySem.Str × Addr)} {outer : List Env} {base gg : Heap} {m : PySem.Str → Option Value} {s : Shared} {E : Value → Shared → Prop} {Q : Flow → Shared → Prop}
    {need h : Nat} {a b nv pv : Int} {ta tb tn tp : Tok} (hd3 : D2 w p loose mean mg mb h need) (BB : Below (ktrTop dp un gd cn cs L fa ccd cl outer) base (envX cn cs L fa ccd cl :: outer) gg) (XX : (Mine.hd.heap_1 w.params).In gg) (TT : Top p loose mean mg mb gg) (hC : Codes base) (hd : dp + (need + 2) < recursionLimit) (hu : un + 8 * (need + 2) < cLine)
    (h1 : 1 ≤ h) (h9 : h ≤ 4501) (en : Builtin.Int.intBits nv ≤ 64) (e1 : nv.fdiv 2 = (h : Int)) (e2 : nv.toNat = h + h) (ha : 0 ≤ a) (hlo : 2 ^ (h + h) ≤ 2 * b) (hhi : b < 2 ^ (h + h)) (hab : a < b * 2 ^ (h + h)) (xa : Builtin.Int.intBits a ≤ 40000)
    (F : Fr gg LL s.heap fun y => if y = "a" then some (.int a ta) else if y = "b" then some (.int b tb) else if y = "n" then some (.int nv tn) else if y = "pad" then some (.int pv tp) else m y)
    (N : News gg LL s.heap [])
    (ret : ∀ h' tk T q r t1 t2 (m' : PySem.Str → Option Value), @LT.lt Nat _ LL T → q * b + r = a → 0 ≤ r → r < b → Fr gg LL h' m' → News gg LL h' [(T, tupO [.int q t1, .int (if pv = 0 then r else r.fdiv (2 ^ (1 : Int).toNat)) t2])] → Q (.ret (.ref T)) { s with heap := h', toks := tk }) :
    wpAny (model PySem.Challenge.rw_wy0040_01.row.toRowW.prog w) ((ktrTop dp un gd cn cs L fa ccd cl outer).deeper (envOf "_div2n1n" scope LL 38 (.ref 37))) (execs stm (envOf "_div2n1n" scope LL 38 (.ref 37))) Q E s := by
  conv at hb => {rhs; arg 1; whnf}
  conv at hb => {rhs; arg 2; whnf}
  simp only [Prod.mk.injEq] at hb
  obtain ⟨rfl, rfl⟩ := hb
  revert XX
  k_fill
  intro XX
  try dsimp only
  have e21 : (2 : Int) ^ (1 : Int).toNat = 2 := rfl
  have e1p : nv.fdiv (2 ^ (1 : Int).toNat) = (h : Int) := by rw [e21]; exact e1
  obtain ⟨g1, g2, g3, g4, g5, g6⟩ := m2_pre (a := a) (b := b) (h := h) h1 ha hlo hhi hab
  (repeat' (first | (k_unfold; (try dsimp only)) | ((fail_if_success (with_reducible first | show wpAny _ _ (PySem.call (Value.ref 45) _) _ _ _ | show _ ≤ _)); (first | walk1 | (dsimp only; walk1)) <;> (try dsimp only)) | (leave1; try dsimp only) | fail "no step"))
  simp only [e21, e2, e1, Int.one_mul, kbt_maskF, Int.toNat_natCast]
  (k_dflt (refine' Ok.use ?k1n3 ?k2n3 ?k3n3 ?k4n3 ?k5n3 ?kKn3 ?kCn3 (div3 hd3 (by (first | lia | omega)) _ _ _ _ _ _ _ _ _ _ _ g1 g2 (kbt_rest _ h).1 (kbt_rest _ h).2 (kbt_whole b h).symm (kbt_rest _ h).1 (kbt_rest _ h).2 g3 g4 g5) ?kPn3 ?kapn3 ?kdn3 ?kun3 ?_); (case k1n3 | k2n3 | k3n3 | k4n3 | k5n3 => k_asm); (case kKn3 => exact rfl); (case kCn3 => assumption); (case kPn3 => (repeat' first | exact Picks.nil | (with_reducible exact Pick.head) | apply Picks.cons | apply Pick.tail)); (case kapn3 => (k_whole; unfold Apart; repeat' (first | exact List.forall_mem_nil _ | (refine List.forall_mem_cons.mpr ⟨?_, ?_⟩) | k_ne))); (case kdn3 => (first | exact room1 (by assumption) rfl | exact room0 (by assumption) | ktr_room)); (case kun3 => (first | exact units1 (by assumption) rfl | ktr_units)))
  intro b9 r9 n9 h9' tk9 U9 F9 N9 hp9
  obtain ⟨T9, Q1, R1, t91, t92, lT9, rfl, rfl, hq, hr0, hr1⟩ := hp9
  simp only [List.cons_append, List.nil_append, List.append_nil] at N9
  try dsimp only
  (repeat' (first | (k_unfold; (try dsimp only)) | ((fail_if_success (with_reducible first | show wpAny _ _ (PySem.call (Value.ref 45) _) _ _ _ | show _ ≤ _)); (first | walk1 | (dsimp only; walk1)) <;> (try dsimp only)) | (leave1; try dsimp only) | fail "no step"))
  have hb0 : 0 < b := by have := kbt_pos (h + h); (first | lia | omega)
  have eQ : Builtin.Int.intBits Q1 ≤ h := bits_of (q_nonneg hq (by rw [g6]; exact Int.fdiv_nonneg ha (Int.le_of_lt (kbt_pos h))) hr1 hb0) (m2_q2 hq hr0 (kbt_rest _ h).2 g2 hb0 (kbt_pos h))
  simp only [e21, e2, e1, Int.one_mul, kbt_maskF, Int.toNat_natCast]
  (k_dflt (refine' Ok.use ?k1n4 ?k2n4 ?k3n4 ?k4n4 ?k5n4 ?kKn4 ?kCn4 (div3 hd3 (by (first | lia | omega)) _ _ _ _ _ _ _ _ _ _ _ hr0 hr1 (kbt_rest _ h).1 (kbt_rest _ h).2 (kbt_whole b h).symm (kbt_rest _ h).1 (kbt_rest _ h).2 g3 g4 g5) ?kPn4 ?kapn4 ?kdn4 ?kun4 ?_); (case k1n4 | k2n4 | k3n4 | k4n4 | k5n4 => k_asm); (case kKn4 => exact rfl); (case kCn4 => assumption); (case kPn4 => (repeat' first | exact Picks.nil | (with_reducible exact Pick.head) | apply Picks.cons | apply Pick.tail)); (case kapn4 => (k_whole; unfold Apart; repeat' (first | exact List.forall_mem_nil _ | (refine List.forall_mem_cons.mpr ⟨?_, ?_⟩) | k_ne))); (case kdn4 => (first | exact room1 (by assumption) rfl | exact room0 (by assumption) | ktr_room)); (case kun4 => (first | exact units1 (by assumption) rfl | ktr_units)))
  intro b8 r8 n8 h8 tk8 U8 F8 N8 hp8
  obtain ⟨T8, Q2, R2, t81, t82, lT8, rfl, rfl, hq', hr0', hr1'⟩ := hp8
  simp only [List.cons_append, List.nil_append, List.append_nil] at N8
  try dsimp only

  have hend := m2_end hb0 hq g6 hr0 hr1 hq' hr0' hr1'
  have hend2 : Builtin.bitOr (Q1 * 2 ^ (nv.fdiv (2 ^ (1 : Int).toNat)).toNat) Q2 * b + R2 = a := by rw [e1p, Int.toNat_natCast]; exact hend
  (repeat' (first | (k_unfold; (try dsimp only)) | ((fail_if_success (with_reducible first | show wpAny _ _ (PySem.call (Value.ref 45) _) _ _ _ | show _ ≤ _)); (first | walk1 | (dsimp only; walk1)) <;> (try dsimp only)) | (leave1; try dsimp only) | fail "no step"))
  · rename pv ≠ 0 => hpv
    (rename News _ _ _ _ => lN); (rename Fr _ _ _ _ => lF)
    refine' ret _ _ _ _ R2 _ _ _ (by assumption) hend2 hr0' hr1' lF ?hN
    case hN =>
      rw [if_neg hpv]
      exact fun q hq => lN q (by rw [List.mem_singleton.mp hq]; exact .head _)
  · rename pv = 0 => hpv
    (rename News _ _ _ _ => lN); (rename Fr _ _ _ _ => lF)
    refine' ret _ _ _ _ R2 _ _ _ (by assumption) hend2 hr0' hr1' lF ?hM
    case hM =>
      rw [if_pos hpv]
      exact fun q hq => lN q (by rw [List.mem_singleton.mp hq]; exact .head _)
set_option maxHeartbeats 4000000 in
theorem d2Head {stm rest : List Stmt} {scope : Scope} (hb : (stm, scope) = ((topFn 3).1.take 3, (topFn 3).2))
    {dp un : Nat} {gd : Option (List Code)} {cn : PySem.Str} {cs : Scope} {L fa LL : Addr} {ccd : Value} {cl : List (PySem.Str × Addr)} {outer : List Env} {base gg : Heap} {m : PySem.Str → Option Value} {s : Shared} {E : Value → Shared → Prop} {Q : Flow → Shared → Prop}
    {n : Nat} {a b : Int} {ta tb tn : Tok} (BB : Below (ktrTop dp un gd cn cs L fa ccd cl outer) base (envX cn cs L fa ccd cl :: outer) gg) (XX : (Mine.hd.heap_1 w.params).In gg) (TT : Top p loose mean mg mb gg)
    (hn : n ≤ 9000) (hb0 : b ≠ 0) (e2 : Builtin.Int.intBits b ≤ 9000) (np : Builtin.divisionGoesByPylong a b = false) (e3 : Builtin.Int.intBits a ≤ n + n)
    (F : Fr gg LL s.heap fun y => if y = "a" then some (.int a ta) else if y = "b" then some (.int b tb) else if y = "n" then some (.int (n : Int) tn) else m y)
    (N : News gg LL s.heap [])
    (retE : ∀ h' tk T t1 t2 (m' : PySem.Str → Option Value), @LT.lt Nat _ LL T → Fr gg LL h' m' → News gg LL h' [(T, tupO [.int (a.fdiv b) t1, .int (a.fmod b) t2])] → Q (.ret (.ref T)) { s with heap := h', toks := tk })
    (retO : ∀ h' tk pv ta tb tn tp (m' : PySem.Str → Option Value), ¬ ((Builtin.Int.intBits a : Nat) : Int) - (n : Int) ≤ 4000 → pv = Builtin.bitAnd (n : Int) 1 → pv ≠ 0 → Fr gg LL h' (fun y => if y = "a" then some (.int (a * 2 ^ (1 : Int).toNat) ta) else if y = "b" then some (.int (b * 2 ^ (1 : Int).toNat) tb) else if y = "n" then some (.int ((n : Int) + 1) tn) else if y = "pad" then some (.int pv tp) else m' y) → News gg LL h' [] →
      wpAny (model PySem.Challenge.rw_wy0040_01.row.toRowW.prog w) ((ktrTop dp un gd cn cs L fa ccd cl outer).deeper (envOf "_div2n1n" scope LL 38 (.ref 37))) (execs rest (envOf "_div2n1n" scope LL 38 (.ref 37))) Q E { s with heap := h', toks := tk })
    (retV : ∀ h' tk pv tp (m' : PySem.Str → Option Value), ¬ ((Builtin.Int.intBits a : Nat) : Int) - (n : Int) ≤ 4000 → pv = Builtin.bitAnd (n : Int) 1 → pv = 0 → Fr gg LL h' (fun y => if y = "a" then some (.int a ta) else if y = "b" then some (.int b tb) else if y = "n" then some (.int (n : Int) tn) else if y = "pad" then some (.int pv tp) else m' y) → News gg LL h' [] →
      wpAny (model PySem.Challenge.rw_wy0040_01.row.toRowW.prog w) ((ktrTop dp un gd cn cs L fa ccd cl outer).deeper (envOf "_div2n1n" scope LL 38 (.ref 37))) (execs rest (envOf "_div2n1n" scope LL 38 (.ref 37))) Q E { s with heap := h', toks := tk }) :
    wpAny (model PySem.Challenge.rw_wy0040_01.row.toRowW.prog w) ((ktrTop dp un gd cn cs L fa ccd cl outer).deeper (envOf "_div2n1n" scope LL 38 (.ref 37))) (execs (stm ++ rest) (envOf "_div2n1n" scope LL 38 (.ref 37))) Q E s := by
  conv at hb => {rhs; arg 1; whnf}
  conv at hb => {rhs; arg 2; whnf}
  simp only [Prod.mk.injEq] at hb
  obtain ⟨rfl, rfl⟩ := hb
  revert XX
  k_fill
  intro XX
  simp only [List.take_succ_cons, List.take_zero, List.cons_append, List.nil_append]
  try dsimp only
  have e4 : Builtin.Int.intBits 1 ≤ 1 := by decide
  (repeat' (first | (k_unfold; (try dsimp only)) | ((fail_if_success (with_reducible first | show wpAny _ _ (PySem.call (Value.ref 45) _) _ _ _ | show _ ≤ _)); (first | walk1 | (dsimp only; walk1)) <;> (try dsimp only)) | (leave1; try dsimp only) | fail "no step"))
  · (rename News _ _ _ _ => lN); (rename Fr _ _ _ _ => lF)
    exact retE _ _ _ _ _ _ (by assumption) lF lN
  · (rename News _ _ _ _ => lN); (rename Fr _ _ _ _ => lF)
    exact retO _ _ _ _ _ _ _ _ (by assumption) rfl (by assumption) (see4 lF rfl rfl rfl rfl) lN
  · (rename News _ _ _ _ => lN); (rename Fr _ _ _ _ => lF)
    exact retV _ _ _ _ _ (by assumption) rfl (by assumption) (see4 lF rfl rfl rfl rfl) lN
set_option maxHeartbeats 4000000 in
theorem div2 {n need h : Nat} (hd3 : 4000 < n → D2 w p loose mean mg mb h need) (hh : n = h + h ∨ n + 1 = h + h) (hn : n ≤ 9000) (hn1 : 1 ≤ n) : D2 w p loose mean mg mb n (need + 2) := by
  intro a b ta tb tn ha hb hlo hhi hab
  have hb0 : b ≠ 0 := by (first | lia | omega)
  have e2 : Builtin.Int.intBits b ≤ 9000 := Nat.le_trans (bits_of (by (first | lia | omega)) hhi) hn
  have np : Builtin.divisionGoesByPylong a b = false := noPy e2
  have q1 := half1 n
  have q2 := half2 n
  have hP : (0 : Int) < 2 ^ n := kbt_pos n
  have e3 : Builtin.Int.intBits a ≤ n + n := bits_of ha (by have := two_lt (b1 := b) (b2 := 0) (b := b * 2 ^ n) (n := n) (k := n + n) (by (first | lia | omega)) (by (first | lia | omega)) (by (first | lia | omega)) (by (first | lia | omega)); (first | lia | omega))
  have e4 : Builtin.Int.intBits 1 ≤ 1 := by decide
  unfold Ok
  k_fill
  intro dp un gd cn cs fa ccd cl outer A₀ base h₀ L m s rest Q E B F X N ap T hk hC hd hu hret
  refine wpAny_call ?_
  (k_dflt (refine' code_defR ?k1n5 ?k2n5 ?k3n5 ?k4n5 ?kapn5 ?k5n5 ?kAn5 ?kFn5 ?kKn5 ?k6n5 ?k7n5 ?k8n5 ?k9n5 ?kBn5 ?_ ?c2n5 ?c3n5 ?c4n5 ?c5n5; (case kAn5 | kFn5 => exact rfl); (case kKn5 | k4n5 | kapn5 => assumption); (case k1n5 | k2n5 | k3n5 | k5n5 => k_asm); (case k6n5 | k7n5 => k_is); (case k8n5 => (first | exact room1 (by assumption) rfl | exact room0 (by assumption) | ktr_room)); (case k9n5 => first | exact BindsTo.of_eq rfl | exact binds_K (by k_in) rfl (by k_is) rfl rfl rfl | (refine' kp_binds ?kxn5 ?ken5; (case kxn5 => k_in); (case ken5 => exact fun _ => rfl))); (case c5n5 => decide); (case kBn5 => exact locs rfl); (case c2n5 | c3n5 | c4n5 => exact rfl))); ktr_enter
  (rename Fr _ _ _ _ => lF0)
  replace lF0 := see3 lF0 (x1 := "a") (x2 := "b") (x3 := "n") rfl rfl rfl
  rename_i gg LL hh FG NN BB XX TT hRs hU l0
  refine d2Head (stm := (topFn 3).1.take 3) (rest := (topFn 3).1.drop 3) rfl BB XX TT hn hb0 e2 np e3 lF0 (by assumption) ?_ ?_ ?_
  · intro h1 tk1 T t1 t2 m1 lT F1 N1
    (repeat' (first | (k_unfold; (try dsimp only)) | ((fail_if_success (with_reducible first | show wpAny _ _ (PySem.call (Value.ref 45) _) _ _ _ | show _ ≤ _)); (first | walk1 | (dsimp only; walk1)) <;> (try dsimp only)) | (leave1; try dsimp only) | fail "no step"))
    exact hret _ _ _ _ _ (by assumption) (by k_asm) (rests (by assumption) N (by assumption) (by assumption)) ⟨_, _, _, _, _, (by assumption), rfl, rfl, by rw [Int.mul_comm]; exact Int.mul_fdiv_add_fmod a b, Int.fmod_nonneg_of_pos _ hb, Int.fmod_lt_of_pos _ hb⟩
  · intro h1 tk1 pv ta1 tb1 tn1 tp1 m1 hlim hpe hpar F1 N1
    have h4 : 4000 < n := by (first | lia | omega)
    have hodd : n + 1 = h + h := by rw [hpe, bitAnd_m1] at hpar; (first | lia | omega)
    obtain ⟨p1, p2, p3⟩ := m2_pad hodd hlo hhi hab hb
    refine d2Tail rfl (hd3 h4) BB XX TT hC hd hu (by omega) (by omega) (Nat.le_trans (bits_of (m := 64) (by omega) (by omega)) (Nat.le_refl _)) (q2.trans (congrArg Nat.cast (by omega : (n + 1) / 2 = h))) (by omega) (by omega) p1 p2 p3 ?ea F1 N1 ?_
    case ea => exact Nat.le_trans (intBits_mul_le e3 (show Builtin.Int.intBits ((2 : Int) ^ (1 : Int).toNat) ≤ 2 by decide)) (by omega)
    intro h2 tk2 T q r t1 t2 m2 lT hq hr0 hr1 F2 N2
    rw [if_neg hpar] at N2
    (repeat' (first | (k_unfold; (try dsimp only)) | ((fail_if_success (with_reducible first | show wpAny _ _ (PySem.call (Value.ref 45) _) _ _ _ | show _ ≤ _)); (first | walk1 | (dsimp only; walk1)) <;> (try dsimp only)) | (leave1; try dsimp only) | fail "no step"))
    obtain ⟨z1, z2, z3⟩ := m2_half hq hr0 hr1
    exact hret _ _ _ _ _ (by assumption) (by k_asm) (rests (by assumption) N (by assumption) (by assumption)) ⟨_, _, _, _, _, (by assumption), rfl, rfl, z1, z2, z3⟩
  · intro h1 tk1 pv tp1 m1 hlim hpe hpar F1 N1
    have h4 : 4000 < n := by (first | lia | omega)
    have hev : n = h + h := by rw [hpe, bitAnd_m1] at hpar; (first | lia | omega)
    rw [hev] at hlo hhi hab
    refine d2Tail rfl (hd3 h4) BB XX TT hC hd hu (by omega) (by omega) (Nat.le_trans (bits_of (m := 64) (by omega) (by omega)) (Nat.le_refl _)) (q1.trans (congrArg Nat.cast (by omega : n / 2 = h))) (by omega) ha hlo hhi hab (by omega) F1 N1 ?_
    intro h2 tk2 T q r t1 t2 m2 lT hq hr0 hr1 F2 N2
    rw [if_pos hpar] at N2
    (repeat' (first | (k_unfold; (try dsimp only)) | ((fail_if_success (with_reducible first | show wpAny _ _ (PySem.call (Value.ref 45) _) _ _ _ | show _ ≤ _)); (first | walk1 | (dsimp only; walk1)) <;> (try dsimp only)) | (leave1; try dsimp only) | fail "no step"))
    exact hret _ _ _ _ _ (by assumption) (by k_asm) (rests (by assumption) N (by assumption) (by assumption)) ⟨_, _, _, _, _, (by assumption), rfl, rfl, hq, hr0, hr1⟩
theorem div2_all : ∀ (k n : Nat), n ≤ 4000 * 2 ^ k → n ≤ 9000 → 1 ≤ n → D2 w p loose mean mg mb n (2 * k + 2)
  | 0, n, h, h9, h1 => div2 (h := (n + 1) / 2) (need := 0) (fun h4 => by (first | lia | omega)) (by (first | lia | omega)) h9 h1
  | k + 1, n, h, h9, h1 => by
    rw [Nat.pow_succ] at h
    exact div2 (h := (n + 1) / 2) (need := 2 * k + 2) (fun h4 => div2_all k _ (by (first | lia | omega)) (by (first | lia | omega)) (by (first | lia | omega))) (by (first | lia | omega)) h9 h1
end
end
section
open PySem PySem.W PySem.Spec PySem.Calls PyProof.Rows
local macro_rules | `(tactic| walk_at "subscriptTail Name Name ref int") => `(tactic| (k_here; k_dflt (refine' item_list (isL (by k_asm) (by k_mem)) ?_ ?_ (by assumption) ?_)))
theorem offDG : True := by
  w_top off
  exact True.intro
section
open PySem PySem.W PySem.Spec PySem.Calls PyProof.Rows
section
variable {w : World} {p : Program} {loose : List PySem.Str} {mean : ExcName → Option Value} {mg mb : PySem.Str → Option Value}
set_option maxHeartbeats 4000000 in
theorem inner_d {params : Arguments} {body : List Stmt} {scope : Scope} (hb : (params, body, scope) = innerOf 6) {f c' cD cI cN l : Addr} {oc oD oI oN : Obj} {qual : PySem.Str} {vs' : Array Value} {t' : Tok} {dc pm ct : Value} {vs : List Value} {cp : Nat} {ds : List Int} {n : Nat} {tn : Tok}
    (d1 : oc.data = .fields vs') (d2 : vs'[1]? = some (.str qual t')) (hD : oD.data = .cell (some (.ref l))) (hI : oI.data = .cell (some (.ref f))) (hN : oN.data = .cell (some (.int (n : Int) tn)))
    (hv : IntsAre vs ds) (hlen : ds.length ≤ 64) (hn : n ≤ 10000) (hB : ∀ d ∈ ds, Builtin.Int.intBits d ≤ 20000) :
    ∀ (k Lo Hi : Nat) (t1 t2 : Tok), Hi - Lo ≤ k + 1 → Lo < Hi → Hi ≤ ds.length → Ok w p loose mean mg mb f [.int (Lo : Int) t1, .int (Hi : Int) t2] (k + 1)
      [(f, fnMade "inner" qual params body scope [("n", cN), ("inner", cI), ("digits", cD)] dc pm c' ct), (c', oc), (cI, oI), (cN, oN), (cD, oD), (l, lstC vs cp)]
      (fun bd n' r => PIntN [(f, fnMade "inner" qual params body scope [("n", cN), ("inner", cI), ("digits", cD)] dc pm c' ct), (c', oc), (cI, oI), (cN, oN), (cD, oD), (l, lstC vs cp)] (undig n ((ds.drop Lo).take (Hi - Lo))) n' r) := by
  conv at hb => {rhs; whnf; arg 2; whnf}
  simp only [Prod.mk.injEq] at hb
  obtain ⟨rfl, rfl, rfl⟩ := hb
  intro k
  induction k using Nat.strongRecOn with
  | ind k ih =>
    intro Lo Hi t1 t2 hk1 hlt hHi
    obtain ⟨d, hd⟩ : ∃ d, ds[Lo]? = some d := ⟨ds[Lo]'(by (first | lia | omega)), List.getElem?_eq_getElem _⟩
    obtain ⟨md, hm, m1, m2, m3⟩ : ∃ md : Nat, ((Lo : Int) + (Hi : Int)).fdiv (2 ^ (1 : Int).toNat) = (md : Int) ∧ Lo ≤ md ∧ md < Hi ∧ (Lo + 1 < Hi → Lo < md) :=
      ⟨(Lo + Hi) / 2, by rw [Int.fdiv_eq_ediv_of_nonneg _ (by decide)]; simp, by omega, by omega, fun _ => by omega⟩
    have em : Builtin.Int.intBits (((Lo : Int) + (Hi : Int)).fdiv (2 ^ (1 : Int).toNat)) ≤ 64 := by
      rw [hm]; exact Nat.le_trans (bits_of (m := 64) (by (first | lia | omega)) (by (first | lia | omega))) (by (first | lia | omega))
    have eL : Builtin.Int.intBits (Lo : Int) ≤ 64 := Nat.le_trans (bits_of (m := 64) (by (first | lia | omega)) (by (first | lia | omega))) (by (first | lia | omega))
    have en : Builtin.Int.intBits (n : Int) ≤ 64 := Nat.le_trans (bits_of (m := 64) (by (first | lia | omega)) (by (first | lia | omega))) (by (first | lia | omega))
    have ebit : ∀ a b, a ≤ b → b ≤ ds.length → Builtin.Int.intBits (undig n ((ds.drop a).take (b - a))) ≤ 1000000 := fun a b h1 h2 => by
      have q := undig_bits (n := n) ((ds.drop a).take (b - a)) fun x hx => hB x (List.mem_of_mem_drop (List.mem_of_mem_take hx))
      rw [slice_len ds h1 h2] at q
      have q2 : (b - a) * (n + 2) ≤ 64 * (n + 2) := Nat.mul_le_mul_right _ (by (first | lia | omega))
      (first | lia | omega)
    obtain ⟨S, hS, hS1, hS2⟩ : ∃ S : Nat, (((Lo : Int) + (Hi : Int)).fdiv (2 ^ (1 : Int).toNat) - (Lo : Int)) * (n : Int) = (S : Int) ∧ S ≤ 640000 ∧ S = n * (md - Lo) := by
      refine ⟨n * (md - Lo), ?_, ?_, rfl⟩
      · rw [hm, Int.natCast_mul, Int.mul_comm]; congr 1; (first | lia | omega)
      · have : n * (md - Lo) ≤ 10000 * 64 := Nat.mul_le_mul hn (by (first | lia | omega))
        (first | lia | omega)
    unfold Ok
    k_fill
    intro dp un gd cn cs fa ccd cl outer A₀ base h₀ L m s rest Q E B F X N ap T hk hC hd0 hu hret
    obtain ⟨c51, c58⟩ := id hC
    refine wpAny_call ?_
    (k_dflt (refine' code_nestR ?k1n8 ?k2n8 ?k3n8 ?k4n8 ?kapn8 ?k5n8 ?kAn8 ?kFn8 ?kKn8 ?k6n8 ?k7n8 ?k8n8 ?k9n8 ?kBn8 ?_ ?c2n8 ?c3n8 ?c4n8 ?c5n8; (case kAn8 | kFn8 => exact rfl); (case kKn8 | k4n8 | kapn8 => assumption); (case k1n8 | k2n8 | k3n8 | k5n8 => k_asm); (case k6n8 => k_mem); (case k7n8 => exact codeRec_news (by assumption) (by simp only [List.cons_append, List.nil_append]; k_mem) (by assumption) (by assumption)); (case k8n8 => (first | exact room1 (by assumption) rfl | exact room0 (by assumption) | ktr_room)); (case k9n8 => exact BindsTo.of_eq rfl); (case c5n8 => decide); (case kBn8 => exact locs rfl); (case c2n8 | c3n8 | c4n8 => exact rfl))); tb_start
    (repeat' (first | (k_unfold; (try dsimp only)) | ((fail_if_success (with_reducible first | show wpAny _ _ (PySem.call (Value.ref _) _) _ _ _ | show _ ≤ _)); (first | walk1 | (dsimp only; walk1)) <;> (try dsimp only)) | (leave1; try dsimp only) | fail "no step"))
    · refine hret _ _ _ _ _ (by assumption) (by k_asm) (rests (by assumption) N (by assumption) (by assumption)) ⟨rfl, _, congrArg (fun z => Value.int z _) ?_⟩
      have hH : Hi = Lo + 1 := by (first | lia | omega)
      subst hH
      rw [slice_one hd, Int.toNat_natCast, List.getD_eq_getElem?_getD, hd]
      simp only [undig, Int.mul_zero, Int.add_zero, Option.getD_some]
    have m4 : Lo < md := m3 (by (first | lia | omega))
    have hk0 : k - 1 < k := by (first | lia | omega)
    simp only [hm]
    (k_dflt (refine' Ok.use ?k1n6 ?k2n6 ?k3n6 ?k4n6 ?k5n6 ?kKn6 ?kCn6 (ih (k - 1) hk0 (md) Hi _ _ (by (first | lia | omega)) (by (first | lia | omega)) hHi) ?kPn6 ?kapn6 ?kdn6 ?kun6 ?_); (case k1n6 | k2n6 | k3n6 | k4n6 | k5n6 => k_asm); (case kKn6 => exact rfl); (case kCn6 => assumption); (case kPn6 => (repeat' first | exact Picks.nil | (with_reducible exact Pick.head) | apply Picks.cons | apply Pick.tail)); (case kapn6 => (k_whole; unfold Apart; repeat' (first | exact List.forall_mem_nil _ | (refine List.forall_mem_cons.mpr ⟨?_, ?_⟩) | k_ne))); (case kdn6 => (first | exact room1 (by assumption) rfl | exact room0 (by assumption) | ktr_room)); (case kun6 => (first | exact units1 (by assumption) rfl | ktr_units)))
    intro b9 r9 n9 h9 tk9 U9 F9 N9 hp9
    obtain ⟨rfl, t91, rfl⟩ := hp9
    simp only [List.cons_append, List.nil_append, List.append_nil] at N9
    try dsimp only
    have eU := ebit (md) Hi (by (first | lia | omega)) hHi
    (repeat' (first | (k_unfold; (try dsimp only)) | ((fail_if_success (with_reducible first | show wpAny _ _ (PySem.call (Value.ref _) _) _ _ _ | show _ ≤ _)); (first | walk1 | (dsimp only; walk1)) <;> (try dsimp only)) | (leave1; try dsimp only) | fail "no step"))
    simp only [hm]
    (k_dflt (refine' Ok.use ?k1n7 ?k2n7 ?k3n7 ?k4n7 ?k5n7 ?kKn7 ?kCn7 (ih (k - 1) hk0 Lo (md) _ _ (by (first | lia | omega)) (by (first | lia | omega)) (by (first | lia | omega))) ?kPn7 ?kapn7 ?kdn7 ?kun7 ?_); (case k1n7 | k2n7 | k3n7 | k4n7 | k5n7 => k_asm); (case kKn7 => exact rfl); (case kCn7 => assumption); (case kPn7 => (repeat' first | exact Picks.nil | (with_reducible exact Pick.head) | apply Picks.cons | apply Pick.tail)); (case kapn7 => (k_whole; unfold Apart; repeat' (first | exact List.forall_mem_nil _ | (refine List.forall_mem_cons.mpr ⟨?_, ?_⟩) | k_ne))); (case kdn7 => (first | exact room1 (by assumption) rfl | exact room0 (by assumption) | ktr_room)); (case kun7 => (first | exact units1 (by assumption) rfl | ktr_units)))
    intro b8 r8 n8 h8 tk8 U8 F8 N8 hp8
    obtain ⟨rfl, t81, rfl⟩ := hp8
    simp only [List.cons_append, List.nil_append, List.append_nil] at N8
    try dsimp only
    (repeat' (first | (k_unfold; (try dsimp only)) | ((fail_if_success (with_reducible first | show wpAny _ _ (PySem.call (Value.ref _) _) _ _ _ | show _ ≤ _)); (first | walk1 | (dsimp only; walk1)) <;> (try dsimp only)) | (leave1; try dsimp only) | fail "no step"))
    refine hret _ _ _ _ _ (by assumption) (by k_asm) (rests (by assumption) N (by assumption) (by assumption)) ⟨rfl, _, congrArg (fun z => Value.int z _) ?_⟩
    rw [hm] at hS
    rw [hS, Int.toNat_natCast, slice_cut ds (a := Lo) (b := md) (c := Hi) (by (first | lia | omega)) (by (first | lia | omega)), undig_append, slice_len ds (by (first | lia | omega)) (by (first | lia | omega)), hS2]
    rw [Int.mul_comm, Int.add_comm]
noncomputable abbrev tab54 (c : Addr) : Obj := tabObj (#[] ++ #[rawInt 48, rawInt 4, .ref c])
noncomputable abbrev q54 : PySem.Str := "_digits2int.<locals>.inner"
inductive PD1 (l : Addr) (vs : List Value) (cp : Nat) (ds : List Int) (n : Nat) (bd : Nat) (n' : Led) (r : Value) : Prop
  | mk (c : Addr) (oc : Obj) (t : Tok) (h : @LT.lt Nat _ bd c) (hc : CodeAt q54 oc) (e : n' = [(54, tab54 c), (c, oc), (l, lstC vs cp)]) (e2 : r = .int (undig n ds) t)
set_option maxHeartbeats 4000000 in
theorem d2i_miss {l : Addr} {vs : List Value} {cp : Nat} {ds : List Int} {n : Nat} {tn : Tok} (hl : @LT.lt Nat _ 54 l) (hv : IntsAre vs ds) (hlen : ds.length ≤ 64) (hn : n ≤ 10000) (hB : ∀ d ∈ ds, Builtin.Int.intBits d ≤ 20000) (hne : ds ≠ []) :
    Ok w p loose mean mg mb 59 [.ref l, .int (n : Int) tn] 70 [(54, tabObj #[]), (l, lstC vs cp)] (PD1 l vs cp ds n) := by
  have hz : vs.toArray.isEmpty = false := by
    cases hv with
    | nil => exact absurd rfl hne
    | cons => rfl
  have hvl := hv.length
  have hpos : 0 < ds.length := List.length_pos_iff.mpr hne
  unfold Ok
  k_fill
  intro dp un gd cn cs fa ccd cl outer A₀ base h₀ L m s rest Q E B F X N ap T hk hC hd hu hret
  obtain ⟨c51, c58⟩ := id hC
  refine wpAny_call ?_
  (k_dflt (refine' code_defCR ?k1n10 ?k2n10 ?k3n10 ?k4n10 ?kapn10 ?k5n10 ?kAn10 ?kFn10 ?kKn10 ?k6n10 ?k7n10 ?k8n10 ?k9n10 ?kBn10 ?kDn10 ?_ ?c2n10 ?c3n10 ?c4n10; (case kAn10 | kFn10 => exact rfl); (case kKn10 | k4n10 | kapn10 => assumption); (case k1n10 | k2n10 | k3n10 | k5n10 => k_asm); (case k6n10 | k7n10 => k_is); (case k8n10 => (first | exact room1 (by assumption) rfl | exact room0 (by assumption) | ktr_room)); (case k9n10 => exact BindsTo.of_eq rfl); (case kBn10 => exact rfl); (case kDn10 => decide +kernel); (case c2n10 | c3n10 | c4n10 => exact rfl))); ktr_step
  rename_i o1 o2 o3 e1 e2 e3 NC
  have hD : o3.data = .cell (some (.ref l)) := by rw [e3]; kernel_rfl
  have hN : o2.data = .cell (some (.int (n : Int) tn)) := by rw [e2]; kernel_rfl
  clear e2 e3
  walk1
  k_dflt (refine' nestDef_K ?d0 ?k0 ?a0 ?_; (case d0 => exact rfl); (case k0 => exact rfl); (case a0 => exact rfl))
  k_dflt (refine' nest_K ?F ?N ?T ?C ?cd ?U ?t ?n ?cl ?_; (case F => k_asm); (case N => k_asm); (case T => k_asm); (case cd => exact rfl); (case C => kn_code); (case U => k_updF); (case t => kn_triples); (case n => kn_among); (case cl => exact rfl); k_whole)
  intro f' c' oc' vs' t' ct' dc' h' tk' F' N' d1' d2' l1 l2; (try dsimp only at N'); (try k_lt l1); (try k_lt2 l2)
  (repeat' (first | (k_unfold; (try dsimp only)) | ((fail_if_success (with_reducible first | show wpAny _ _ (PySem.call (Value.ref _) _) _ _ _ | show _ ≤ _)); (first | walk1 | (dsimp only; walk1)) <;> (try dsimp only)) | (leave1; try dsimp only) | fail "no step"))
  rename Obj => oI
  have hI : oI.data = .cell (some (.ref f')) := by assumption
  (k_dflt (refine' Ok.use ?k1n9 ?k2n9 ?k3n9 ?k4n9 ?k5n9 ?kKn9 ?kCn9 (inner_d ?hb d1' d2' hD hI hN hv hlen hn hB 63 0 ds.length _ _ (by (first | lia | omega)) (by (first | lia | omega)) (by (first | lia | omega))) ?kPn9 ?kapn9 ?kdn9 ?kun9 ?_); (case k1n9 | k2n9 | k3n9 | k4n9 | k5n9 => k_asm); (case kKn9 => exact rfl); (case kCn9 => assumption); (case kPn9 => (repeat' first | exact Picks.nil | (with_reducible exact Pick.head) | apply Picks.cons | apply Pick.tail)); (case kapn9 => (k_whole; unfold Apart; repeat' (first | exact List.forall_mem_nil _ | (refine List.forall_mem_cons.mpr ⟨?_, ?_⟩) | k_ne))); (case kdn9 => (first | exact room1 (by assumption) rfl | exact room0 (by assumption) | ktr_room)); (case kun9 => (first | exact units1 (by assumption) rfl | ktr_units)))
  case hb => kernel_rfl
  intro b8 r8 n8 h8 tk8 U8 F8 N8 hp8
  obtain ⟨rfl, t81, rfl⟩ := hp8
  simp only [List.cons_append, List.nil_append, List.append_nil] at N8
  try dsimp only
  (repeat' (first | (k_unfold; (try dsimp only)) | ((fail_if_success (with_reducible first | show wpAny _ _ (PySem.call (Value.ref _) _) _ _ _ | show _ ≤ _)); (first | walk1 | (dsimp only; walk1)) <;> (try dsimp only)) | (leave1; try dsimp only) | fail "no step"))
  have hs : CodeAt q54 oc' := ⟨vs', t', d1', d2'.trans (by kernel_rfl)⟩
  have hR : News h₀ L _ ([(54, tab54 c'), (c', oc'), (l, lstC vs cp)] ++ rest) := rests (news := [(54, tabObj #[]), (l, lstC vs cp)]) (cb_drop (by assumption) (by k_allIn)) N (by assumption) (by assumption)
  rw [List.drop_zero, Nat.sub_zero, List.take_length]
  exact hret _ _ _ _ _ (by assumption) (by assumption) hR ⟨c', oc', t81, by (first | lia | omega), hs, rfl, rfl⟩
set_option maxHeartbeats 4000000 in
theorem d2i_hit {l c : Addr} {oc : Obj} {vs : List Value} {cp : Nat} {ds : List Int} {n : Nat} {tn : Tok} (hc : CodeAt q54 oc) (hcl : @LT.lt Nat _ 54 c) (hl : @Ne Nat 54 l) (hv : IntsAre vs ds) (hlen : ds.length ≤ 64) (hn : n ≤ 10000) (hB : ∀ d ∈ ds, Builtin.Int.intBits d ≤ 20000) (hne : ds ≠ []) :
    Ok w p loose mean mg mb 59 [.ref l, .int (n : Int) tn] 70 [(54, tab54 c), (c, oc), (l, lstC vs cp)] (fun _ => PIntT [(54, tab54 c), (c, oc), (l, lstC vs cp)] (undig n ds)) := by
  obtain ⟨vs', t', d1', d2'⟩ := hc
  have hz : vs.toArray.isEmpty = false := by
    cases hv with
    | nil => exact absurd rfl hne
    | cons => rfl
  have hvl := hv.length
  have hpos : 0 < ds.length := List.length_pos_iff.mpr hne
  unfold Ok
  k_fill
  intro dp un gd cn cs fa ccd cl outer A₀ base h₀ L m s rest Q E B F X N ap T hk hC hd hu hret
  obtain ⟨c51, c58⟩ := id hC
  refine wpAny_call ?_
  (k_dflt (refine' code_defCR ?k1n12 ?k2n12 ?k3n12 ?k4n12 ?kapn12 ?k5n12 ?kAn12 ?kFn12 ?kKn12 ?k6n12 ?k7n12 ?k8n12 ?k9n12 ?kBn12 ?kDn12 ?_ ?c2n12 ?c3n12 ?c4n12; (case kAn12 | kFn12 => exact rfl); (case kKn12 | k4n12 | kapn12 => assumption); (case k1n12 | k2n12 | k3n12 | k5n12 => k_asm); (case k6n12 | k7n12 => k_is); (case k8n12 => (first | exact room1 (by assumption) rfl | exact room0 (by assumption) | ktr_room)); (case k9n12 => exact BindsTo.of_eq rfl); (case kBn12 => exact rfl); (case kDn12 => decide +kernel); (case c2n12 | c3n12 | c4n12 => exact rfl))); ktr_step
  rename_i o1 o2 o3 e1 e2 e3 NC
  have hD : o3.data = .cell (some (.ref l)) := by rw [e3]; kernel_rfl
  have hN : o2.data = .cell (some (.int (n : Int) tn)) := by rw [e2]; kernel_rfl
  clear e2 e3
  walk1
  k_dflt (refine' nestDef_K ?d0 ?k0 ?a0 ?_; (case d0 => exact rfl); (case k0 => exact rfl); (case a0 => exact rfl))
  k_dflt (refine' nestHit_K ?F ?N ?T ?C ?cd ?mem ?t ?n ?cl ?_; (case F => k_asm); (case N => k_asm); (case T => k_asm); (case cd => exact rfl); (case C => kn_code); (case mem => k_mem); (case t => kn_triples); (case n => kn_hit); (case cl => exact rfl); k_whole)
  intro f' ct' dc' h' tk' F' N' l1; (try dsimp only at N'); (try k_lt l1)
  (repeat' (first | (k_unfold; (try dsimp only)) | ((fail_if_success (with_reducible first | show wpAny _ _ (PySem.call (Value.ref _) _) _ _ _ | show _ ≤ _)); (first | walk1 | (dsimp only; walk1)) <;> (try dsimp only)) | (leave1; try dsimp only) | fail "no step"))
  rename Obj => oI
  have hI : oI.data = .cell (some (.ref f')) := by assumption
  (k_dflt (refine' Ok.use ?k1n11 ?k2n11 ?k3n11 ?k4n11 ?k5n11 ?kKn11 ?kCn11 (inner_d (t' := t') ?hb d1' ?d2 hD hI hN hv hlen hn hB 63 0 ds.length _ _ (by (first | lia | omega)) (by (first | lia | omega)) (by (first | lia | omega))) ?kPn11 ?kapn11 ?kdn11 ?kun11 ?_); (case k1n11 | k2n11 | k3n11 | k4n11 | k5n11 => k_asm); (case kKn11 => exact rfl); (case kCn11 => assumption); (case kPn11 => (repeat' first | exact Picks.nil | (with_reducible exact Pick.head) | apply Picks.cons | apply Pick.tail)); (case kapn11 => (k_whole; unfold Apart; repeat' (first | exact List.forall_mem_nil _ | (refine List.forall_mem_cons.mpr ⟨?_, ?_⟩) | k_ne))); (case kdn11 => (first | exact room1 (by assumption) rfl | exact room0 (by assumption) | ktr_room)); (case kun11 => (first | exact units1 (by assumption) rfl | ktr_units)))
  case hb => kernel_rfl
  case d2 => exact d2'.trans (by kernel_rfl)
  intro b8 r8 n8 h8 tk8 U8 F8 N8 hp8
  obtain ⟨rfl, t81, rfl⟩ := hp8
  simp only [List.cons_append, List.nil_append, List.append_nil] at N8
  try dsimp only
  (repeat' (first | (k_unfold; (try dsimp only)) | ((fail_if_success (with_reducible first | show wpAny _ _ (PySem.call (Value.ref _) _) _ _ _ | show _ ≤ _)); (first | walk1 | (dsimp only; walk1)) <;> (try dsimp only)) | (leave1; try dsimp only) | fail "no step"))
  have hR : News h₀ L _ ([(54, tab54 c), (c, oc), (l, lstC vs cp)] ++ rest) := rests (news := [(54, tab54 c), (c, oc), (l, lstC vs cp)]) (cb_drop (by assumption) (by k_allIn)) N (by assumption) (by assumption)
  rw [List.drop_zero, Nat.sub_zero, List.take_length]
  exact hret _ _ _ _ _ (by assumption) (by assumption) hR ⟨t81, rfl, rfl⟩
end
end
end
theorem offIG : True := by
  w_top off
  exact True.intro
section
open PySem PySem.W PySem.Spec PySem.Calls PyProof.Rows
section
variable {w : World} {p : Program} {loose : List PySem.Str} {mean : ExcName → Option Value} {mg mb : PySem.Str → Option Value}
inductive PII (NN : List Value → Led) (X : List Int) (n' : Led) (r : Value) : Prop
  | mk (h : r = .none) (vs2 : List Value) (hv : IntsAre vs2 X) (e : n' = NN vs2)
set_option maxHeartbeats 4000000 in
theorem inner_i {params : Arguments} {body : List Stmt} {scope : Scope} (hb : (params, body, scope) = innerOf 5) {f c' cA cI cN l : Addr} {oc oA oI oN : Obj} {qual : PySem.Str} {vs' : Array Value} {t' : Tok} {dc pm ct : Value} {n M : Nat} {tn : Tok}
    (d1 : oc.data = .fields vs') (d2 : vs'[1]? = some (.str qual t')) (hA : oA.data = .cell (some (.ref l))) (hI : oI.data = .cell (some (.ref f))) (hN : oN.data = .cell (some (.int (n : Int) tn)))
    (x1 : @LT.lt Nat _ cA l) (x2 : @LT.lt Nat _ cI l) (x3 : @LT.lt Nat _ cN l) (x4 : @Ne Nat l c') (x5 : @LT.lt Nat _ l f) (hM : M ≤ 64) (hn : n ≤ 10000) :
    ∀ (k Lo Hi : Nat) (x : Int) (vs : List Value) (ds : List Int) (t0 t1 t2 : Tok), IntsAre vs ds → ds.length = M → 0 ≤ x → x < 2 ^ (n * (Hi - Lo)) → Hi - Lo ≤ k + 1 → Lo < Hi → Hi ≤ M → Ok w p loose mean mg mb f [.int x t0, .int (Lo : Int) t1, .int (Hi : Int) t2] (k + 1)
      [(f, fnMade "inner" qual params body scope [("n", cN), ("inner", cI), ("a_digits", cA)] dc pm c' ct), (c', oc), (cI, oI), (cN, oN), (cA, oA), (l, lstO vs)]
      (fun bd n' r => PII (fun vs2 => [(f, fnMade "inner" qual params body scope [("n", cN), ("inner", cI), ("a_digits", cA)] dc pm c' ct), (c', oc), (cI, oI), (cN, oN), (cA, oA), (l, lstO vs2)]) (ds.take Lo ++ dig n (Hi - Lo) x ++ ds.drop Hi) n' r) := by
  conv at hb => {rhs; whnf; arg 2; whnf}
  simp only [Prod.mk.injEq] at hb
  obtain ⟨rfl, rfl, rfl⟩ := hb
  intro k
  induction k using Nat.strongRecOn with
  | ind k ih =>
    intro Lo Hi x vs ds t0 t1 t2 hv hds hx0 hx hk1 hlt hHi
    obtain ⟨md, hm, m1, m2, m3⟩ : ∃ md : Nat, ((Lo : Int) + (Hi : Int)).fdiv (2 ^ (1 : Int).toNat) = (md : Int) ∧ Lo ≤ md ∧ md < Hi ∧ (Lo + 1 < Hi → Lo < md) :=
      ⟨(Lo + Hi) / 2, by rw [Int.fdiv_eq_ediv_of_nonneg _ (by decide)]; simp, by omega, by omega, fun _ => by omega⟩
    have em : Builtin.Int.intBits (((Lo : Int) + (Hi : Int)).fdiv (2 ^ (1 : Int).toNat)) ≤ 64 := by
      rw [hm]; exact Nat.le_trans (bits_of (m := 64) (by (first | lia | omega)) (by (first | lia | omega))) (by (first | lia | omega))
    have eL : Builtin.Int.intBits (Lo : Int) ≤ 64 := Nat.le_trans (bits_of (m := 64) (by (first | lia | omega)) (by (first | lia | omega))) (by (first | lia | omega))
    have en : Builtin.Int.intBits (n : Int) ≤ 64 := Nat.le_trans (bits_of (m := 64) (by (first | lia | omega)) (by (first | lia | omega))) (by (first | lia | omega))
    obtain ⟨S, hS, hS1, hS2⟩ : ∃ S : Nat, (((Lo : Int) + (Hi : Int)).fdiv (2 ^ (1 : Int).toNat) - (Lo : Int)) * (n : Int) = (S : Int) ∧ S ≤ 640000 ∧ S = n * (md - Lo) := by
      refine ⟨n * (md - Lo), ?_, ?_, rfl⟩
      · rw [hm, Int.natCast_mul, Int.mul_comm]; congr 1; (first | lia | omega)
      · have : n * (md - Lo) ≤ 10000 * 64 := Nat.mul_le_mul hn (by (first | lia | omega))
        (first | lia | omega)
    have exn : n * (Hi - Lo) ≤ 10000 * 64 := Nat.mul_le_mul hn (by (first | lia | omega))
    have ex : Builtin.Int.intBits x ≤ 640000 := Nat.le_trans (bits_of hx0 hx) (by (first | lia | omega))
    have ex2 : Builtin.Int.intBits (x.fdiv (2 ^ ((((Lo : Int) + (Hi : Int)).fdiv (2 ^ (1 : Int).toNat) - (Lo : Int)) * (n : Int)).toNat)) ≤ 640000 := intBits_fdiv_le ex
    unfold Ok
    k_fill
    intro dp un gd cn cs fa ccd cl outer A₀ base h₀ L m s rest Q E B F X N ap T hk hC hd0 hu hret
    obtain ⟨c51, c58⟩ := id hC
    refine wpAny_call ?_
    (k_dflt (refine' code_nestR ?k1n15 ?k2n15 ?k3n15 ?k4n15 ?kapn15 ?k5n15 ?kAn15 ?kFn15 ?kKn15 ?k6n15 ?k7n15 ?k8n15 ?k9n15 ?kBn15 ?_ ?c2n15 ?c3n15 ?c4n15 ?c5n15; (case kAn15 | kFn15 => exact rfl); (case kKn15 | k4n15 | kapn15 => assumption); (case k1n15 | k2n15 | k3n15 | k5n15 => k_asm); (case k6n15 => k_mem); (case k7n15 => exact codeRec_news (by assumption) (by simp only [List.cons_append, List.nil_append]; k_mem) (by assumption) (by assumption)); (case k8n15 => (first | exact room1 (by assumption) rfl | exact room0 (by assumption) | ktr_room)); (case k9n15 => exact BindsTo.of_eq rfl); (case c5n15 => decide); (case kBn15 => exact locs rfl); (case c2n15 | c3n15 | c4n15 => exact rfl))); tb_start
    (repeat' (first | (k_unfold; (try dsimp only)) | ((fail_if_success (with_reducible first | show wpAny _ _ (PySem.call (Value.ref _) _) _ _ _ | show _ ≤ _)); (first | walk1 | (dsimp only; walk1)) <;> (try dsimp only)) | (leave1; try dsimp only) | fail "no step"))
    · have hH : Hi = Lo + 1 := by (first | lia | omega)
      subst hH
      have hv2 : IntsAre (vs.set Lo (Value.int x t0)) (ds.take Lo ++ dig n (Lo + 1 - Lo) x ++ ds.drop (Lo + 1)) := by
        have e : Lo + 1 - Lo = 1 := by (first | lia | omega)
        rw [e] at hx ⊢
        rw [dig_one hx0 hx, ← put_one ds x (by (first | lia | omega))]
        exact ints_set hv Lo
      refine hret _ _ _ _ _ (by assumption) (by k_asm) (rests (by assumption) N (by assumption) (by assumption)) ⟨rfl, _, hv2, rfl⟩
    have m4 : Lo < md := m3 (by (first | lia | omega))
    have hk0 : k - 1 < k := by (first | lia | omega)
    have hmid : md - Lo + (Hi - md) = Hi - Lo := by (first | lia | omega)
    have hPS : (0 : Int) < 2 ^ S := kbt_pos S
    simp only [hS, Int.toNat_natCast, xor_low]
    simp only [hm]
    (k_dflt (refine' Ok.use ?k1n13 ?k2n13 ?k3n13 ?k4n13 ?k5n13 ?kKn13 ?kCn13 (ih (k - 1) hk0 Lo (md) _ vs ds _ _ _ hv hds (Int.emod_nonneg _ (by (first | lia | omega))) (by rw [← hS2]; exact Int.emod_lt_of_pos _ hPS) (by (first | lia | omega)) (by (first | lia | omega)) (by (first | lia | omega))) ?kPn13 ?kapn13 ?kdn13 ?kun13 ?_); (case k1n13 | k2n13 | k3n13 | k4n13 | k5n13 => k_asm); (case kKn13 => exact rfl); (case kCn13 => assumption); (case kPn13 => (repeat' first | exact Picks.nil | (with_reducible exact Pick.head) | apply Picks.cons | apply Pick.tail)); (case kapn13 => (k_whole; unfold Apart; repeat' (first | exact List.forall_mem_nil _ | (refine List.forall_mem_cons.mpr ⟨?_, ?_⟩) | k_ne))); (case kdn13 => (first | exact room1 (by assumption) rfl | exact room0 (by assumption) | ktr_room)); (case kun13 => (first | exact units1 (by assumption) rfl | ktr_units)))
    intro b9 r9 n9 h9 tk9 U9 F9 N9 hp9
    obtain ⟨rfl, vs9, hv9, rfl⟩ := hp9
    simp only [List.cons_append, List.nil_append, List.append_nil] at N9
    try dsimp only
    (repeat' (first | (k_unfold; (try dsimp only)) | ((fail_if_success (with_reducible first | show wpAny _ _ (PySem.call (Value.ref _) _) _ _ _ | show _ ≤ _)); (first | walk1 | (dsimp only; walk1)) <;> (try dsimp only)) | (leave1; try dsimp only) | fail "no step"))
    simp only [hS, Int.toNat_natCast]
    simp only [hm]
    have hup : x.fdiv (2 ^ S) = x / 2 ^ S := Int.fdiv_eq_ediv_of_nonneg _ (by (first | lia | omega))
    have hul : x / 2 ^ S < 2 ^ (n * (Hi - md)) := by
      refine (Int.ediv_lt_iff_lt_mul hPS).mpr ?_
      rw [← Int.pow_add, hS2, ← Nat.mul_add, Nat.add_comm, hmid]; exact hx
    simp only [hup]
    (k_dflt (refine' Ok.use ?k1n14 ?k2n14 ?k3n14 ?k4n14 ?k5n14 ?kKn14 ?kCn14 (ih (k - 1) hk0 (md) Hi _ vs9 _ _ _ _ hv9 (by rw [take_dig_drop ds _ (by (first | lia | omega)) (by (first | lia | omega)) (dig_len ..)]; exact hds) (Int.ediv_nonneg hx0 (by (first | lia | omega))) hul (by (first | lia | omega)) (by (first | lia | omega)) hHi) ?kPn14 ?kapn14 ?kdn14 ?kun14 ?_); (case k1n14 | k2n14 | k3n14 | k4n14 | k5n14 => k_asm); (case kKn14 => exact rfl); (case kCn14 => assumption); (case kPn14 => (repeat' first | exact Picks.nil | (with_reducible exact Pick.head) | apply Picks.cons | apply Pick.tail)); (case kapn14 => (k_whole; unfold Apart; repeat' (first | exact List.forall_mem_nil _ | (refine List.forall_mem_cons.mpr ⟨?_, ?_⟩) | k_ne))); (case kdn14 => (first | exact room1 (by assumption) rfl | exact room0 (by assumption) | ktr_room)); (case kun14 => (first | exact units1 (by assumption) rfl | ktr_units)))
    intro b8 r8 n8 h8 tk8 U8 F8 N8 hp8
    obtain ⟨rfl, vs8, hv8, rfl⟩ := hp8
    simp only [List.cons_append, List.nil_append, List.append_nil] at N8
    try dsimp only
    (repeat' (first | (k_unfold; (try dsimp only)) | ((fail_if_success (with_reducible first | show wpAny _ _ (PySem.call (Value.ref _) _) _ _ _ | show _ ≤ _)); (first | walk1 | (dsimp only; walk1)) <;> (try dsimp only)) | (leave1; try dsimp only) | fail "no step"))
    rw [put_two ds _ _ (by (first | lia | omega)) (by (first | lia | omega)) (by (first | lia | omega)) (dig_len ..), hS2, ← dig_append, hmid] at hv8
    exact hret _ _ _ _ _ (by assumption) (by k_asm) (rests (by assumption) N (by assumption) (by assumption)) ⟨rfl, _, hv8, rfl⟩
noncomputable abbrev tab47 (c : Addr) : Obj := tabObj (#[] ++ #[rawInt 33, rawInt 4, .ref c])
noncomputable abbrev q47 : PySem.Str := "_int2digits.<locals>.inner"
inductive PI1 (n M : Nat) (a : Int) (bd : Nat) (n' : Led) (r : Value) : Prop
  | mk (c : Addr) (oc : Obj) (l : Addr) (vs : List Value) (h1 : @LT.lt Nat _ bd c) (h2 : @LT.lt Nat _ bd l) (h3 : c ≠ l) (hc : CodeAt q47 oc) (hv : IntsAre vs (dig n M a)) (e : n' = [(47, tab47 c), (c, oc), (l, lstO vs)]) (e2 : r = .ref l)
inductive PI2 (n M : Nat) (a : Int) (c : Addr) (oc : Obj) (bd : Nat) (n' : Led) (r : Value) : Prop
  | mk (l : Addr) (vs : List Value) (h2 : @LT.lt Nat _ bd l) (hv : IntsAre vs (dig n M a)) (e : n' = [(47, tab47 c), (c, oc), (l, lstO vs)]) (e2 : r = .ref l)
set_option maxHeartbeats 4000000 in
theorem i2d_miss {a : Int} {n M : Nat} {ta tn : Tok} (ha : 0 < a) (hn1 : 1 ≤ n) (hn : n ≤ 10000) (hM : (Builtin.Int.intBits a + n - 1) / n = M) (hM1 : 1 ≤ M) (hM2 : M ≤ 64) :
    Ok w p loose mean mg mb 52 [.int a ta, .int (n : Int) tn] 70 [(47, tabObj #[])] (PI1 n M a) := by
  have hcount : ((Builtin.Int.intBits a : Nat) : Int) + (n : Int) - 1 = ((Builtin.Int.intBits a + n - 1 : Nat) : Int) := by (first | lia | omega)
  have hn0 : (n : Int) ≠ 0 := by (first | lia | omega)
  have hq : (((Builtin.Int.intBits a : Nat) : Int) + (n : Int) - 1).fdiv (n : Int) = (M : Int) := by
    rw [hcount, Int.fdiv_eq_ediv_of_nonneg _ (by (first | lia | omega)), ← hM]; simp
  unfold Ok
  k_fill
  intro dp un gd cn cs fa ccd cl outer A₀ base h₀ L m s rest Q E B F X N ap T hk hC hd hu hret
  obtain ⟨c51, c58⟩ := id hC
  refine wpAny_call ?_
  (k_dflt (refine' code_defCR ?k1n17 ?k2n17 ?k3n17 ?k4n17 ?kapn17 ?k5n17 ?kAn17 ?kFn17 ?kKn17 ?k6n17 ?k7n17 ?k8n17 ?k9n17 ?kBn17 ?kDn17 ?_ ?c2n17 ?c3n17 ?c4n17; (case kAn17 | kFn17 => exact rfl); (case kKn17 | k4n17 | kapn17 => assumption); (case k1n17 | k2n17 | k3n17 | k5n17 => k_asm); (case k6n17 | k7n17 => k_is); (case k8n17 => (first | exact room1 (by assumption) rfl | exact room0 (by assumption) | ktr_room)); (case k9n17 => exact BindsTo.of_eq rfl); (case kBn17 => exact rfl); (case kDn17 => decide +kernel); (case c2n17 | c3n17 | c4n17 => exact rfl))); ktr_step
  rename_i o1 o2 o3 e1 e2 e3 NC
  have hN : o3.data = .cell (some (.int (n : Int) tn)) := by rw [e3]; kernel_rfl
  clear e3
  (repeat' (first | (k_unfold; (try dsimp only)) | ((fail_if_success (with_reducible first | show wpAny _ _ (PySem.call (Value.ref _) _) _ _ _ | show _ ≤ _)); (first | walk1 | (dsimp only; walk1)) <;> (try dsimp only)) | (leave1; try dsimp only) | fail "no step"))
  rename_i D1 hA1 lA2 lA1 D2 hA3 hi nn s1 ee1 ee2 ee3 lA4 hA5 oA dA f' c' oc' vs' t' ct' dc' hA6 tk6 d1' d2' lB1 lB2 hA7 oI FF NN dI aN
  have hnn : nn = M := by rw [hq] at ee3; have := ee3 (by (first | lia | omega)); (first | lia | omega)
  subst hnn
  (k_dflt (refine' Ok.use ?k1n16 ?k2n16 ?k3n16 ?k4n16 ?k5n16 ?kKn16 ?kCn16 (inner_i ?hb d1' d2' dA dI hN ?x1 ?x2 ?x3 ?x4 ?x5 hM2 hn 63 0 nn a _ _ _ _ _ hi ee1 (by (first | lia | omega)) (lt_bits (by (first | lia | omega)) hn1 hM) (by (first | lia | omega)) (by (first | lia | omega)) (by (first | lia | omega))) ?kPn16 ?kapn16 ?kdn16 ?kun16 ?_); (case k1n16 | k2n16 | k3n16 | k4n16 | k5n16 => k_asm); (case kKn16 => exact rfl); (case kCn16 => assumption); (case kPn16 => (repeat' first | exact Picks.nil | (with_reducible exact Pick.head) | apply Picks.cons | apply Pick.tail)); (case kapn16 => (k_whole; unfold Apart; repeat' (first | exact List.forall_mem_nil _ | (refine List.forall_mem_cons.mpr ⟨?_, ?_⟩) | k_ne))); (case kdn16 => (first | exact room1 (by assumption) rfl | exact room0 (by assumption) | ktr_room)); (case kun16 => (first | exact units1 (by assumption) rfl | ktr_units)))
  case hb => kernel_rfl
  case x1 => (first | lia | omega)
  case x2 => (first | lia | omega)
  case x3 => (first | lia | omega)
  case x4 => (first | lia | omega)
  case x5 => (first | lia | omega)
  intro b8 r8 n8 h8 tk8 U8 F8 N8 hp8
  obtain ⟨rfl, vs2, hv2, rfl⟩ := hp8
  simp only [List.cons_append, List.nil_append, List.append_nil] at N8
  try dsimp only
  rw [whole_dig _ _ ee1] at hv2
  (repeat' (first | (k_unfold; (try dsimp only)) | ((fail_if_success (with_reducible first | show wpAny _ _ (PySem.call (Value.ref _) _) _ _ _ | show _ ≤ _)); (first | walk1 | (dsimp only; walk1)) <;> (try dsimp only)) | (leave1; try dsimp only) | fail "no step"))
  have hs : CodeAt q47 oc' := ⟨vs', t', d1', d2'.trans (by kernel_rfl)⟩
  have hR : News h₀ L _ ([(47, tab47 c'), (c', oc'), (D2, lstO vs2)] ++ rest) := rests (news := [(47, tabObj #[])]) (cb_drop (by assumption) (by k_allIn)) N (by assumption) (by assumption)
  exact hret _ _ _ _ _ (by assumption) (by assumption) hR ⟨c', oc', D2, vs2, by (first | lia | omega), by (first | lia | omega), (by k_ne), hs, hv2, rfl, rfl⟩
  · exfalso; (first | lia | omega)
set_option maxHeartbeats 4000000 in
theorem i2d_hit {a : Int} {n M : Nat} {ta tn : Tok} {c : Addr} {oc : Obj} (hc : CodeAt q47 oc) (hcl : @LT.lt Nat _ 47 c) (ha : 0 < a) (hn1 : 1 ≤ n) (hn : n ≤ 10000) (hM : (Builtin.Int.intBits a + n - 1) / n = M) (hM1 : 1 ≤ M) (hM2 : M ≤ 64) :
    Ok w p loose mean mg mb 52 [.int a ta, .int (n : Int) tn] 70 [(47, tab47 c), (c, oc)] (PI2 n M a c oc) := by
  obtain ⟨vs', t', d1', d2'⟩ := hc
  have hcount : ((Builtin.Int.intBits a : Nat) : Int) + (n : Int) - 1 = ((Builtin.Int.intBits a + n - 1 : Nat) : Int) := by (first | lia | omega)
  have hn0 : (n : Int) ≠ 0 := by (first | lia | omega)
  have hq : (((Builtin.Int.intBits a : Nat) : Int) + (n : Int) - 1).fdiv (n : Int) = (M : Int) := by
    rw [hcount, Int.fdiv_eq_ediv_of_nonneg _ (by (first | lia | omega)), ← hM]; simp
  unfold Ok
  k_fill
  intro dp un gd cn cs fa ccd cl outer A₀ base h₀ L m s rest Q E B F X N ap T hk hC hd hu hret
  obtain ⟨c51, c58⟩ := id hC
  refine wpAny_call ?_
  (k_dflt (refine' code_defCR ?k1n19 ?k2n19 ?k3n19 ?k4n19 ?kapn19 ?k5n19 ?kAn19 ?kFn19 ?kKn19 ?k6n19 ?k7n19 ?k8n19 ?k9n19 ?kBn19 ?kDn19 ?_ ?c2n19 ?c3n19 ?c4n19; (case kAn19 | kFn19 => exact rfl); (case kKn19 | k4n19 | kapn19 => assumption); (case k1n19 | k2n19 | k3n19 | k5n19 => k_asm); (case k6n19 | k7n19 => k_is); (case k8n19 => (first | exact room1 (by assumption) rfl | exact room0 (by assumption) | ktr_room)); (case k9n19 => exact BindsTo.of_eq rfl); (case kBn19 => exact rfl); (case kDn19 => decide +kernel); (case c2n19 | c3n19 | c4n19 => exact rfl))); ktr_step
  rename_i o1 o2 o3 e1 e2 e3 NC
  have hN : o3.data = .cell (some (.int (n : Int) tn)) := by rw [e3]; kernel_rfl
  clear e3
  (repeat' (first | (k_unfold; (try dsimp only)) | ((fail_if_success (with_reducible first | show wpAny _ _ (PySem.call (Value.ref _) _) _ _ _ | show _ ≤ _)); (first | walk1 | (dsimp only; walk1)) <;> (try dsimp only)) | (leave1; try dsimp only) | fail "no step"))
  rename_i D1 hA1 lA2 lA1 D2 hA3 hi nn s1 ee1 ee2 ee3 lA4 hA5 oA dA f' ct' dc' hA6 tk6 lB1 hA7 oI FF NN dI aN
  have hnn : nn = M := by rw [hq] at ee3; have := ee3 (by (first | lia | omega)); (first | lia | omega)
  subst hnn
  (k_dflt (refine' Ok.use ?k1n18 ?k2n18 ?k3n18 ?k4n18 ?k5n18 ?kKn18 ?kCn18 (inner_i (t' := t') ?hb d1' ?d2 dA dI hN ?x1 ?x2 ?x3 ?x4 ?x5 hM2 hn 63 0 nn a _ _ _ _ _ hi ee1 (by (first | lia | omega)) (lt_bits (by (first | lia | omega)) hn1 hM) (by (first | lia | omega)) (by (first | lia | omega)) (by (first | lia | omega))) ?kPn18 ?kapn18 ?kdn18 ?kun18 ?_); (case k1n18 | k2n18 | k3n18 | k4n18 | k5n18 => k_asm); (case kKn18 => exact rfl); (case kCn18 => assumption); (case kPn18 => (repeat' first | exact Picks.nil | (with_reducible exact Pick.head) | apply Picks.cons | apply Pick.tail)); (case kapn18 => (k_whole; unfold Apart; repeat' (first | exact List.forall_mem_nil _ | (refine List.forall_mem_cons.mpr ⟨?_, ?_⟩) | k_ne))); (case kdn18 => (first | exact room1 (by assumption) rfl | exact room0 (by assumption) | ktr_room)); (case kun18 => (first | exact units1 (by assumption) rfl | ktr_units)))
  case hb => kernel_rfl
  case d2 => exact d2'.trans (by kernel_rfl)
  case x1 => (first | lia | omega)
  case x2 => (first | lia | omega)
  case x3 => (first | lia | omega)
  case x4 => (first | lia | omega)
  case x5 => (first | lia | omega)
  intro b8 r8 n8 h8 tk8 U8 F8 N8 hp8
  obtain ⟨rfl, vs2, hv2, rfl⟩ := hp8
  simp only [List.cons_append, List.nil_append, List.append_nil] at N8
  try dsimp only
  rw [whole_dig _ _ ee1] at hv2
  (repeat' (first | (k_unfold; (try dsimp only)) | ((fail_if_success (with_reducible first | show wpAny _ _ (PySem.call (Value.ref _) _) _ _ _ | show _ ≤ _)); (first | walk1 | (dsimp only; walk1)) <;> (try dsimp only)) | (leave1; try dsimp only) | fail "no step"))
  have hR : News h₀ L _ ([(47, tab47 c), (c, oc), (D2, lstO vs2)] ++ rest) := rests (news := [(47, tab47 c), (c, oc)]) (cb_drop (by assumption) (by k_allIn)) N (by assumption) (by assumption)
  exact hret _ _ _ _ _ (by assumption) (by assumption) hR ⟨D2, vs2, by (first | lia | omega), hv2, rfl, rfl⟩
  · exfalso; (first | lia | omega)
end
end
theorem offDM : True := by
  w_top off
  exact True.intro
section
open PySem PySem.W PySem.Spec PySem.Calls PyProof.Rows
section
variable {w : World} {p : Program} {loose : List PySem.Str} {mean : ExcName → Option Value} {mg mb : PySem.Str → Option Value}
inductive PDM (a b : Int) (c1 c2 : Addr) (oc1 oc2 : Obj) (bd : Nat) (n' : Led) (r : Value) : Prop
  | mk (T : Addr) (t1 t2 : Tok) (h : @LT.lt Nat _ bd T) (e : n' = [(T, tupO [.int (a / b) t1, .int (a % b) t2]), (47, tab47 c1), (c1, oc1), (54, tab54 c2), (c2, oc2)]) (e2 : r = .ref T)
inductive DMI (a b : Int) (n M : Nat) (D1 c1 c2 lD : Addr) (oc1 oc2 : Obj) (vD : List Value) (tb : Tok) (rs : List Value) (m' : PySem.Str → Option Value) (n' : Led) : Prop
  | mk (dr Hs qs : List Int) (qv : List Value) (r : Int) (tr tn : Tok) (cp : Nat) (h1 : IntsAre rs dr) (h2 : dig n M a = dr.reverse ++ Hs) (h3 : undig n Hs = undig n qs.reverse * b + r) (h4 : 0 ≤ r) (h5 : r < b) (h6 : IntsAre qv qs) (h7 : qs.length = Hs.length) (h8 : ∀ x ∈ qs, 0 ≤ x ∧ x < 2 ^ n)
    (e1 : m' "r" = some (.int r tr)) (e2 : m' "q_digits" = some (.ref D1)) (e3 : m' "n" = some (.int (n : Int) tn)) (e4 : m' "b" = some (.int b tb)) (e : n' = [(D1, lstC qv cp), (47, tab47 c1), (c1, oc1), (lD, lstO vD), (54, tab54 c2), (c2, oc2)])
set_option maxHeartbeats 4000000 in
theorem dmp {a b : Int} {M : Nat} {ta tb : Tok} {c1 c2 : Addr} {oc1 oc2 : Obj} (hc1 : CodeAt q47 oc1) (hc2 : CodeAt q54 oc2) (l1 : @LT.lt Nat _ 54 c1) (l2 : @LT.lt Nat _ 54 c2) (l3 : @Ne Nat c1 c2) (ha : 0 < a) (hb : 0 < b)
    (hn : Builtin.Int.intBits b ≤ 9000) (hM : (Builtin.Int.intBits a + Builtin.Int.intBits b - 1) / Builtin.Int.intBits b = M) (hM1 : 1 ≤ M) (hM2 : M ≤ 64) :
    Ok w p loose mean mg mb 66 [.int a ta, .int b tb] 80 [(47, tab47 c1), (c1, oc1), (54, tab54 c2), (c2, oc2)]
      (PDM a b c1 c2 oc1 oc2) := by
  obtain ⟨n, hnb⟩ : ∃ n, n = Builtin.Int.intBits b := ⟨_, rfl⟩
  rw [← hnb] at hn hM
  have kbt_divmod : ∀ {Q r : Int}, a = Q * b + r → 0 ≤ r → r < b → Q = a / b ∧ r = a % b := fun {Q r} e h1 h2 => by
    have := (Int.ediv_emod_unique (a := a) (b := b) (r := r) (q := Q) hb).mpr ⟨by rw [e, Int.mul_comm b Q]; (first | lia | omega), h1, h2⟩
    exact ⟨this.1.symm, this.2.symm⟩
  unfold Ok
  k_fill
  intro dp un gd cn cs fa ccd cl outer A₀ base h₀ L m s rest Q E B F X N ap T hk hC hd hu hret
  refine wpAny_call ?_
  (k_dflt (refine' code_defR ?k1n23 ?k2n23 ?k3n23 ?k4n23 ?kapn23 ?k5n23 ?kAn23 ?kFn23 ?kKn23 ?k6n23 ?k7n23 ?k8n23 ?k9n23 ?kBn23 ?_ ?c2n23 ?c3n23 ?c4n23 ?c5n23; (case kAn23 | kFn23 => exact rfl); (case kKn23 | k4n23 | kapn23 => assumption); (case k1n23 | k2n23 | k3n23 | k5n23 => k_asm); (case k6n23 | k7n23 => k_is); (case k8n23 => (first | exact room1 (by assumption) rfl | exact room0 (by assumption) | ktr_room)); (case k9n23 => first | exact BindsTo.of_eq rfl | exact binds_K (by k_in) rfl (by k_is) rfl rfl rfl | (refine' kp_binds ?kxn23 ?ken23; (case kxn23 => k_in); (case ken23 => exact fun _ => rfl))); (case c5n23 => decide); (case kBn23 => exact locs rfl); (case c2n23 | c3n23 | c4n23 => exact rfl))); ktr_enter
  (repeat' (first | (k_unfold; (try dsimp only)) | ((fail_if_success (with_reducible first | show wpAny _ _ (PySem.call (Value.ref _) _) _ _ _ | show wpAny _ _ (pyIter (Value.ref _)) _ _ _ | show _ ≤ _ | show UnrEnd _ _ _ _ _ _ _ | show UnrPost _ _ _ _ _ _ _ _ _)); (first | walk1 | (dsimp only; walk1)) <;> (try dsimp only)) | (leave1; try dsimp only) | fail "no step"))
  simp only [← hnb]
  have hn1 : 1 ≤ n := by
    rw [hnb]; unfold Builtin.Int.intBits
    split
    · rename_i e; exact absurd (by simpa using e) (Int.ne_of_gt hb)
    · (first | lia | omega)
  (k_dflt (refine' Ok.use ?k1n20 ?k2n20 ?k3n20 ?k4n20 ?k5n20 ?kKn20 ?kCn20 (i2d_hit (c := c1) hc1 (by (first | lia | omega)) ha hn1 (by (first | lia | omega)) hM hM1 hM2) ?kPn20 ?kapn20 ?kdn20 ?kun20 ?_); (case k1n20 | k2n20 | k3n20 | k4n20 | k5n20 => k_asm); (case kKn20 => exact rfl); (case kCn20 => assumption); (case kPn20 => (repeat' first | exact Picks.nil | (with_reducible exact Pick.head) | apply Picks.cons | apply Pick.tail)); (case kapn20 => (k_whole; unfold Apart; repeat' (first | exact List.forall_mem_nil _ | (refine List.forall_mem_cons.mpr ⟨?_, ?_⟩) | k_ne))); (case kdn20 => (first | exact room1 (by assumption) rfl | exact room0 (by assumption) | ktr_room)); (case kun20 => (first | exact units1 (by assumption) rfl | ktr_units)))
  intro b9 r9 n9 h9 tk9 U9 F9 N9 hp9
  obtain ⟨lD, vD, lt9, hvD, rfl, rfl⟩ := hp9
  simp only [List.cons_append, List.nil_append, List.append_nil] at N9 U9
  unfold Under at U9
  k_lt U9
  try dsimp only
  (repeat' (first | (k_unfold; (try dsimp only)) | ((fail_if_success (with_reducible first | show wpAny _ _ (PySem.call (Value.ref _) _) _ _ _ | show wpAny _ _ (pyIter (Value.ref _)) _ _ _ | show _ ≤ _ | show UnrEnd _ _ _ _ _ _ _ | show UnrPost _ _ _ _ _ _ _ _ _)); (first | walk1 | (dsimp only; walk1)) <;> (try dsimp only)) | (leave1; try dsimp only) | fail "no step"))
  rename_i hA0 D1 hA1 lA2 lA1 hA3 D2 hA4 lF lN lA3
  with_unfolding_all refine iter_revUnr (lo := lstO vD) (vs := vD) (n := 0) (by rfl) lF lN (by k_offL) (by k_mem) (by rfl) (by rfl) ?_
  have hbn : b < 2 ^ n := by
    have h1 : b.natAbs < 2 ^ n := hnb ▸ intBits_le_iff.mp (Nat.le_refl _)
    have h3 : ((b.natAbs : Nat) : Int) < ((2 ^ n : Nat) : Int) := Int.ofNat_lt.mpr h1
    rw [kbt_cast] at h3
    (first | lia | omega)
  have hlo : (2 : Int) ^ n ≤ 2 * b := by
    rcases Int.lt_or_le (2 * b) (2 ^ n) with h | h
    · exfalso
      obtain ⟨k, rfl⟩ : ∃ k, n = k + 1 := ⟨n - 1, by (first | lia | omega)⟩
      rw [Int.pow_succ] at h
      have h1 : Builtin.Int.intBits b ≤ k := bits_of (Int.le_of_lt hb) (by (first | lia | omega))
      (first | lia | omega)
    · exact h
  refine rev_ind (Inv := DMI a b n M D1 c1 c2 lD oc1 oc2 vD tb) ?_ ?_ _ _ _ ?_
  · rintro m1 n1 ⟨dr, Hs, qs, qv, r, tr, tn, cp, hdr, hdig, hund, hr0, hrb, hqv, hql, hqr, e1, e2, e3, e4, rfl⟩ h1 tk1 F1 N1
    replace F1 := see4 F1 e1 e2 e3 e4
    obtain rfl : dr = [] := by cases hdr; rfl
    rw [List.reverse_nil, List.nil_append] at hdig
    have hHl : Hs.length = M := by rw [← hdig, dig_len]
    have hqvl : qv.length = M := by rw [hqv.length, hql, hHl]
    (repeat' (first | (k_unfold; (try dsimp only)) | ((fail_if_success (with_reducible first | show wpAny _ _ (PySem.call (Value.ref _) _) _ _ _ | show wpAny _ _ (pyIter (Value.ref _)) _ _ _ | show _ ≤ _ | show UnrEnd _ _ _ _ _ _ _ | show UnrPost _ _ _ _ _ _ _ _ _)); (first | walk1 | (dsimp only; walk1)) <;> (try dsimp only)) | (leave1; try dsimp only) | fail "no step"))
    refine kl_reverse (l := qv.reverse) (its := qv.toArray) (n := cp) (news' := [(D1, lstC qv.reverse cp), (47, tab47 c1), (c1, oc1), (lD, lstO vD), (54, tab54 c2), (c2, oc2)]) (by assumption) (by assumption) (by simp) (by k_upd) (by simp only [List.toList_toArray, hqvl]; exact Nat.le_trans hM2 (by decide)) ?_
    intro h2 F2 N2
    (repeat' (first | (k_unfold; (try dsimp only)) | ((fail_if_success (with_reducible first | show wpAny _ _ (PySem.call (Value.ref _) _) _ _ _ | show wpAny _ _ (pyIter (Value.ref _)) _ _ _ | show _ ≤ _ | show UnrEnd _ _ _ _ _ _ _ | show UnrPost _ _ _ _ _ _ _ _ _)); (first | walk1 | (dsimp only; walk1)) <;> (try dsimp only)) | (leave1; try dsimp only) | fail "no step"))
    have hu2 : ∀ x ∈ qs.reverse, 0 ≤ x ∧ x < 2 ^ n := fun x hx => hqr x (List.mem_reverse.mp hx)
    (k_dflt (refine' Ok.use ?k1n21 ?k2n21 ?k3n21 ?k4n21 ?k5n21 ?kKn21 ?kCn21 (d2i_hit (c := c2) (ds := qs.reverse) hc2 (by (first | lia | omega)) (by (first | lia | omega)) (intsAre_rev hqv) ?x2 ?x3 ?x4 ?x5) ?kPn21 ?kapn21 ?kdn21 ?kun21 ?_); (case k1n21 | k2n21 | k3n21 | k4n21 | k5n21 => k_asm); (case kKn21 => exact rfl); (case kCn21 => assumption); (case kPn21 => (repeat' first | exact Picks.nil | (with_reducible exact Pick.head) | apply Picks.cons | apply Pick.tail)); (case kapn21 => (k_whole; unfold Apart; repeat' (first | exact List.forall_mem_nil _ | (refine List.forall_mem_cons.mpr ⟨?_, ?_⟩) | k_ne))); (case kdn21 => (first | exact room1 (by assumption) rfl | exact room0 (by assumption) | ktr_room)); (case kun21 => (first | exact units1 (by assumption) rfl | ktr_units)))
    case x2 => rw [List.length_reverse, hql, hHl]; exact hM2
    case x3 => (first | lia | omega)
    case x4 => exact fun d hd => Nat.le_trans (bits_of (hu2 d hd).1 (hu2 d hd).2) (by (first | lia | omega))
    case x5 => intro hh; have h5 := congrArg List.length hh; rw [List.length_reverse, hql, hHl] at h5; simp at h5; (first | lia | omega)
    intro b7 r7 n7 h7 tk7 U7 F7 N7 hp7
    obtain ⟨t7, rfl, rfl⟩ := hp7
    simp only [List.cons_append, List.nil_append, List.append_nil] at N7 U7
    unfold Under at U7
    k_lt U7
    try dsimp only
    (repeat' (first | (k_unfold; (try dsimp only)) | ((fail_if_success (with_reducible first | show wpAny _ _ (PySem.call (Value.ref _) _) _ _ _ | show wpAny _ _ (pyIter (Value.ref _)) _ _ _ | show _ ≤ _ | show UnrEnd _ _ _ _ _ _ _ | show UnrPost _ _ _ _ _ _ _ _ _)); (first | walk1 | (dsimp only; walk1)) <;> (try dsimp only)) | (leave1; try dsimp only) | fail "no step"))
    have e0 : a = undig n qs.reverse * b + r := by
      have h5 := undig_dig n M a (Int.le_of_lt ha) (lt_bits (Int.le_of_lt ha) hn1 hM)
      rw [hdig] at h5; (first | lia | omega)
    obtain ⟨eq, er⟩ := kbt_divmod e0 hr0 hrb
    have hR : News h₀ L _ ([(_, tupO _), (47, tab47 c1), (c1, oc1), (54, tab54 c2), (c2, oc2)] ++ rest) := rests (news := [(47, tab47 c1), (c1, oc1), (54, tab54 c2), (c2, oc2)]) (cb_drop (by assumption) (by k_allIn)) N (by assumption) (by assumption)
    refine hret _ _ _ _ _ (by assumption) (by assumption) hR ⟨_, t7, tr, (by assumption), ?_, rfl⟩
    rw [eq, er]
  · rintro v rs m1 n1 ⟨dr, Hs, qs, qv, r, tr, tn, cp, hdr, hdig, hund, hr0, hrb, hqv, hql, hqr, e1, e2, e3, e4, rfl⟩ it h1 tk1 hcl F1 N1
    obtain ⟨d, dr', rfl⟩ : ∃ d dr', dr = d :: dr' := by
      cases hdr with
      | cons d t h => exact ⟨d, _, rfl⟩
    obtain ⟨td, rs', hve, hdr'⟩ := hdr.cons_inv
    obtain ⟨rfl, rfl⟩ := List.cons.inj hve
    have hdd : 0 ≤ d ∧ d < 2 ^ n := dig_range n M a d (by rw [hdig]; simp)
    have er : Builtin.Int.intBits r ≤ 9000 := Nat.le_trans (bits_of hr0 (by (first | lia | omega))) hn
    replace F1 := see4 F1 (x1 := "r") (x2 := "q_digits") (x3 := "n") (x4 := "b") (by rw [if_neg (by decide)]; exact e1) (by rw [if_neg (by decide)]; exact e2) (by rw [if_neg (by decide)]; exact e3) (by rw [if_neg (by decide)]; exact e4)
    (repeat' (first | (k_unfold; (try dsimp only)) | ((fail_if_success (with_reducible first | show wpAny _ _ (PySem.call (Value.ref _) _) _ _ _ | show wpAny _ _ (pyIter (Value.ref _)) _ _ _ | show _ ≤ _ | show UnrEnd _ _ _ _ _ _ _ | show UnrPost _ _ _ _ _ _ _ _ _)); (first | walk1 | (dsimp only; walk1)) <;> (try dsimp only)) | (leave1; try dsimp only) | fail "no step"))
    simp only [Int.toNat_natCast]
    have hP : (0 : Int) < 2 ^ n := kbt_pos n
    have hrn : 0 ≤ r * 2 ^ n := Int.mul_nonneg hr0 (Int.le_of_lt hP)
    have hup : r * 2 ^ n + d < b * 2 ^ n := by
      have h1 : (r + 1) * 2 ^ n ≤ b * 2 ^ n := Int.mul_le_mul_of_nonneg_right (by (first | lia | omega)) (Int.le_of_lt hP)
      rw [Int.add_mul] at h1; (first | lia | omega)
    (k_dflt (refine' Ok.use ?k1n22 ?k2n22 ?k3n22 ?k4n22 ?k5n22 ?kKn22 ?kCn22 (div2_all (w := w) 2 n (by (first | lia | omega)) hn hn1 (r * 2 ^ n + d) b _ _ _ (by (first | lia | omega)) hb hlo hbn hup) ?kPn22 ?kapn22 ?kdn22 ?kun22 ?_); (case k1n22 | k2n22 | k3n22 | k4n22 | k5n22 => k_asm); (case kKn22 => exact rfl); (case kCn22 => assumption); (case kPn22 => (repeat' first | exact Picks.nil | (with_reducible exact Pick.head) | apply Picks.cons | apply Pick.tail)); (case kapn22 => (k_whole; unfold Apart; repeat' (first | exact List.forall_mem_nil _ | (refine List.forall_mem_cons.mpr ⟨?_, ?_⟩) | k_ne))); (case kdn22 => (first | exact room1 (by assumption) rfl | exact room0 (by assumption) | ktr_room)); (case kun22 => (first | exact units1 (by assumption) rfl | ktr_units)))
    intro b9 r9 n9 h9 tk9 U9 F9 N9 hp9
    obtain ⟨T9, q9, rm, t1, t2, lt9, rfl, rfl, hsum, hrm0, hrmb⟩ := hp9
    simp only [List.cons_append, List.nil_append, List.append_nil] at N9 U9
    unfold Under at U9
    k_lt U9
    try dsimp only
    (repeat' (first | (k_unfold; (try dsimp only)) | ((fail_if_success (with_reducible first | show wpAny _ _ (PySem.call (Value.ref _) _) _ _ _ | show wpAny _ _ (pyIter (Value.ref _)) _ _ _ | show _ ≤ _ | show UnrEnd _ _ _ _ _ _ _ | show UnrPost _ _ _ _ _ _ _ _ _)); (first | walk1 | (dsimp only; walk1)) <;> (try dsimp only)) | (leave1; try dsimp only) | fail "no step"))
    have hpush : W.listOf (qv.toArray.push (.int q9 t1)) (cp + 1) = lstC (qv ++ [.int q9 t1]) (cp + 1) := by rw [List.push_toArray]
    have hqvl : qv.length ≤ 64 := by
      have h5 := congrArg List.length hdig
      rw [dig_len, List.length_append] at h5
      rw [hqv.length, hql]; (first | lia | omega)
    refine append_K (its := qv.toArray) (n := cp) (news' := [(T9, tupO [.int q9 t1, .int rm t2]), (D2, it), (D1, lstC (qv ++ [.int q9 t1]) (cp + 1)), (47, tab47 c1), (c1, oc1), (lD, lstO vD), (54, tab54 c2), (c2, oc2)]) (by assumption) (by assumption) (by rw [hpush]; k_upd) ?_ (Nat.le_trans hqvl (by decide))
    intro h3 F3 N3
    (repeat' (first | (k_unfold; (try dsimp only)) | ((fail_if_success (with_reducible first | show wpAny _ _ (PySem.call (Value.ref _) _) _ _ _ | show wpAny _ _ (pyIter (Value.ref _)) _ _ _ | show _ ≤ _ | show UnrEnd _ _ _ _ _ _ _ | show UnrPost _ _ _ _ _ _ _ _ _)); (first | walk1 | (dsimp only; walk1)) <;> (try dsimp only)) | (leave1; try dsimp only) | fail "no step"))
    show UnrEnd _ _ _ _ _ _ _
    refine UnrEnd.intro3 F3 N3 [(D1, lstC (qv ++ [.int q9 t1]) (cp + 1)), (47, tab47 c1), (c1, oc1), (lD, lstO vD), (54, tab54 c2), (c2, oc2)] (by k_mem) (by k_subL) (by k_offL) ⟨by k_mem, dr', d :: Hs, qs ++ [q9], qv ++ [.int q9 t1], rm, t2, tn, cp + 1, hdr', ?_, ld_step hund hsum, hrm0, hrmb, intsAre_snoc hqv _ _, by simp [hql], ?_, rfl, rfl, rfl, rfl, rfl⟩
    · rw [hdig, List.reverse_cons, List.append_assoc, List.singleton_append]
    · intro x hx
      rcases List.mem_append.mp hx with hx | hx
      · exact hqr x hx
      · rw [List.mem_singleton.mp hx]
        have hq0 : 0 ≤ q9 := q_nonneg hsum (by (first | lia | omega)) hrmb hb
        refine ⟨hq0, ?_⟩
        rcases Int.lt_or_le q9 (2 ^ n) with h | h
        · exact h
        · exfalso
          have h5 : 2 ^ n * b ≤ q9 * b := Int.mul_le_mul_of_nonneg_right h (Int.le_of_lt hb)
          rw [Int.mul_comm b] at hup
          (first | lia | omega)
  · refine ⟨dig n M a |>.reverse, [], [], [], 0, _, _, 0, intsAre_rev hvD, by simp, by simp [undig], Int.le_refl _, hb, .nil, rfl, (fun _ h => nomatch h), rfl, rfl, (by rw [hnb]; rfl), rfl, rfl⟩
end
end
theorem offLH : True := by
  w_top off
  exact True.intro
section
open PySem PySem.W PySem.Spec PySem.Calls PyProof.Rows
section
variable {w : World} {p : Program} {loose : List PySem.Str} {mean : ExcName → Option Value} {mg mb : PySem.Str → Option Value}
noncomputable abbrev kH : PySem.Str := PySem.Str.ofString "_headers"
noncomputable abbrev hDict (w : World) (l : Addr) (t : Tok) : Obj := dictOf [⟨PyData.keyHash w.params kH, .str kH t, .ref l⟩] 1
inductive PHN (w : World) (bd : Nat) (n' : Led) (r : Value) : Prop
  | mk (x d l : Addr) (t : Tok) (h1 : @LE.le Nat _ bd d) (h2 : @LT.lt Nat _ d x) (h3 : @LT.lt Nat _ x l) (e : n' = [(l, lstO []), (x, instObj 252 d), (d, hDict w l t)]) (e2 : r = .ref x)
set_option maxHeartbeats 4000000 in
theorem hnew :
    Ok w p loose mean mg mb 252 [] 20 []
      (PHN w) := by
  unfold Ok
  k_fill
  intro dp un gd cn cs fa ccd cl outer A₀ base h₀ L m s rest Q E B F X N ap T hk hC hd hu hret
  k_dflt (refine' call_cls ?k1 ?k2 ?k3 ?k4 ?k5 ?k6 ?_; (case k1 => k_asm); (case k2 => k_asm); (case k3 => k_asm); (case k4 => k_is); (case k5 => k_is); (case k6 => k_is); k_whole; intro x' d' h' F' N' l1 l2)
  replace l2 : @LT.lt Nat _ d' x' := l2
  have apn : Apart [(x', instObj 252 d'), (d', dictOf [] 0)] rest := by
    unfold Apart
    intro q hq q2 hq2
    have h5 : @LT.lt Nat _ q2.1 d' := l1 q2 hq2
    have h6 : @LT.lt Nat _ d' x' := l2
    have h7 : @Ne Nat q.1 q2.1 := by
      rcases List.mem_cons.mp hq with rfl | hq
      · show @Ne Nat x' q2.1; (first | lia | omega)
      · rw [List.mem_singleton.mp hq]; show @Ne Nat d' q2.1; (first | lia | omega)
    exact h7
  replace N' : News h₀ L h' ([(x', instObj 252 d'), (d', dictOf [] 0)] ++ rest) := N'
  clear ap
  (k_dflt (refine' code_defR ?k1n24 ?k2n24 ?k3n24 ?k4n24 ?kapn24 ?k5n24 ?kAn24 ?kFn24 ?kKn24 ?k6n24 ?k7n24 ?k8n24 ?k9n24 ?kBn24 ?_ ?c2n24 ?c3n24 ?c4n24 ?c5n24; (case kAn24 | kFn24 => exact rfl); (case kKn24 | k4n24 | kapn24 => assumption); (case k1n24 | k2n24 | k3n24 | k5n24 => k_asm); (case k6n24 | k7n24 => k_is); (case k8n24 => (first | exact room1 (by assumption) rfl | exact room0 (by assumption) | ktr_room)); (case k9n24 => first | exact BindsTo.of_eq rfl | exact binds_K (by k_in) rfl (by k_is) rfl rfl rfl | (refine' kp_binds ?kxn24 ?ken24; (case kxn24 => k_in); (case ken24 => exact fun _ => rfl))); (case c5n24 => decide); (case kBn24 => exact locs rfl); (case c2n24 | c3n24 | c4n24 => exact rfl))); ktr_enter
  (repeat' (first | (k_unfold; (try dsimp only)) | ((fail_if_success (with_reducible first | show wpAny _ _ (PySem.call (Value.ref _) _) _ _ _ | show wpAny _ _ (pyIter (Value.ref _)) _ _ _ | show _ ≤ _ | show UnrEnd _ _ _ _ _ _ _ | show UnrPost _ _ _ _ _ _ _ _ _)); (first | walk1 | (dsimp only; walk1)) <;> (try dsimp only)) | (leave1; try dsimp only) | fail "no step"))
  walk1
  (repeat' (first | (k_unfold; (try dsimp only)) | ((fail_if_success (with_reducible first | show wpAny _ _ (PySem.call (Value.ref _) _) _ _ _ | show wpAny _ _ (pyIter (Value.ref _)) _ _ _ | show _ ≤ _ | show UnrEnd _ _ _ _ _ _ _ | show UnrPost _ _ _ _ _ _ _ _ _)); (first | walk1 | (dsimp only; walk1)) <;> (try dsimp only)) | (leave1; try dsimp only) | fail "no step"))
  have hR : News h₀ L _ ([(_, lstO []), (x', instObj 252 d'), (d', hDict w _ _)] ++ rest) := rests (s := { s with heap := h' }) (by assumption) N' (by assumption) (by assumption)
  exact hret d' _ _ _ _ l1 (by assumption) hR ⟨x', d', _, _, Nat.le_refl _, l2, by (first | lia | omega), rfl, rfl⟩
end
end
theorem offLX : True := by
  w_top off
  exact True.intro
section
open PySem PySem.W PySem.Spec PySem.Calls PyProof.Rows
section
variable {w : World} {p : Program} {loose : List PySem.Str} {mean : ExcName → Option Value} {mg mb : PySem.Str → Option Value}
theorem slot_re : Slot "re.Pattern" "search" "re.Pattern.search" :=
  .of (owner := "re.Pattern") (n := "search") (by rw [typeLookup_type, builtinLookup_eq_fast]; kernel_rfl) (by decide +kernel) (by decide +kernel) (by decide +kernel)
    (by first | exact .inl (by decide +kernel) | exact .inr (by decide +kernel)) (by rw [isSubtype_type]; kernel_rfl)
theorem type_re : typeOf (.builtin "re.Pattern.search") = pure (.type "method_descriptor") := by show builtinType _ = _; rw [builtinType_eq_fast]; kernel_rfl
theorem plain_re : PlainAttrs "re.Pattern" :=
  ⟨⟨"object.__getattribute__", by rw [typeLookup_type, builtinLookup_eq_fast]; kernel_rfl, by decide +kernel⟩, by rw [typeLookup_type, builtinLookup_eq_fast]; kernel_rfl⟩
theorem entry_re : entryFor table "re.Pattern.search" = some Builtin.«re.Pattern.search» := entryFor_of_tree (by kernel_rfl)
theorem args_re (a b : Value) : argsOk "re.Pattern.search" ⟨[a, b], []⟩ := by unfold argsOk; kernel_rfl
section
variable {prog : Program} {A₀ A : Around} {s : Shared} {base h₀ : Heap} {outer : List Env} {L : Addr} {m : PySem.Str → Option Value} {env : Env} {news rest : Led} {K : Frag}
  {R : Result → Shared → Prop} {name qual : PySem.Str} {params : Arguments} {body : List Stmt} {scope : Scope} {cl : List (PySem.Str × Addr)} {dV kV doc pm cdv ct oc : Value} {an od : Option Addr} {osl : Array (Option Value)} {f : Addr} {args : Args} {binds : List (PySem.Str × Value)}
theorem kp_frameR {E : Value → Shared → Prop} (B : Below A₀ base outer h₀) (F : Fr h₀ L s.heap m) (N : News h₀ L s.heap news) (NR : News h₀ L s.heap rest) (ap : Apart news rest) (hlim : h₀.NoLimit) (hA : A.frames = some (env :: outer)) (hf : env.frame = some L) (hke : env.scope.kind = .function)
    (hloc : ∀ y ∈ binds, scope.names.lookup y.1 = some .local)
    (h : ∀ g L' h₁, Fr h₀ L g m → Fr g L' h₁ (fun y => binds.reverse.lookup y) → News g L' h₁ news → Below A base (env :: outer) g → h₀.StaysIn g → (∀ p ∈ news, p.1 < L') → Rests g rest → Under L' (news ++ rest) →
      wpAny (model prog w) (A.deeper (envX qual scope L' f cdv cl)) (execs body (envX qual scope L' f cdv cl))
        (fun fl s' => LeaveK h₀ L m g R (match fl with | .ret v => v | _ => .none) s')
        (fun e s' => wpAny (model prog w) (A.deeper (envX qual scope L' f cdv cl)) (leaving (envX qual scope L' f cdv cl) e) (fun _ s'' => R (.error e) s'') (fun e' s'' => R (.error e') s'') s')
        { s with heap := h₁, toks := s.toks + binds.length })
    (hcell : ∀ x ∈ scope.names, x.2 ≠ .cell) (hk : scope.kind = .function) :
    wpAny (model prog w) A.in1 (newFunctionEnv scope mainGlobals cl binds (qual ++ ".<locals>.") (some f) cdv none builtinsNs) (fun env' s₂ => s₂.heap.NoLimit ∧ codeAny (model prog w) A (.func body env') R s₂) E s := by
  obtain ⟨FG, BG, st, lv⟩ := groundX (R := R) B F N hA hf hke
  refine wpAny_newFunctionEnv hcell hloc (fun h₁ hns hsb => ⟨(hlim.keeps F.keep).fresh _ hsb, codeAny_func ?_⟩) hk
  have hk₁ : ∀ b o, s.heap.get? b = some o → h₁.get? b = some o := fun b o e => hsb.extBut b o (Nat.ne_of_lt (Heap.lt_size e)) (Heap.get?_push_of_some _ e)
  show wpAny (model prog w) (A.deeper (envX qual scope s.heap.objs.size f cdv cl)) (execs body (envX qual scope s.heap.objs.size f cdv cl)) _ _ _
  exact wpAny_mono (h _ s.heap.objs.size h₁ FG ⟨hns, fun b o e => hk₁ b o (of_hideAll _ e), Nat.le_of_eq (hideAll_size _ _)⟩
    (fun p hp => ⟨hk₁ _ _ (N p hp).1, Nat.ne_of_lt (Heap.lt_size (N p hp).1), hideAll_none _ (List.mem_map_of_mem hp)⟩) BG st (fun p hp => Heap.lt_size (N p hp).1) (rests_of NR ap) (under_of N NR)) (fun fl s' hl => lv _ _ hl) fun _ _ y => y
theorem code_moreR {nm : PySem.Str} {front : List (PySem.Str × Value)} {g₁ : Addr → Sem (List (PySem.Str × Value))}
    (B : Below A₀ base outer h₀) (F : Fr h₀ L s.heap m) (X₀ : K.In h₀) (N : News h₀ L s.heap (news ++ rest)) (ap : Apart news rest) (T : Top p loose mean mg mb h₀) (hA : A.frames = some (env :: outer)) (hf : env.frame = some L) (hke : env.scope.kind = .function)
    (ho : K.lookup f = some ⟨oc, od, .func (fnOf name qual params body scope dV kV doc pm an cdv ct), osl⟩) (hcd : codeIn K cdv qual = true) (hroom : A.depth < recursionLimit)
    (hp : peekA K ⟨prog, w.params⟩ (bindArgs (fnOf name qual params body scope dV kV doc pm an cdv ct) args) = some (dictOf [] 0, g₁))
    (hk₁ : ∀ D, g₁ D = (forIn ([] : List (PySem.Str × Value)) PUnit.unit (fun x _ => (nsSet D x.1 x.2 >>= fun _ => pure (ForInStep.yield PUnit.unit))) >>= fun _ => pure (front ++ [(nm, Value.ref D)])))
    (hloc : ∀ D, ∀ y ∈ front ++ [(nm, Value.ref D)], scope.names.lookup y.1 = some .local)
    (h : ∀ D o g L' h₁ tk, (∀ p ∈ news, p.1 < D) → (D == sysModules) = false → o.IsDictOf (strKind prog w) ([] : List (PySem.Str × Value)) → PyProof.V.FlatPairs PyData.str ([] : List (PySem.Str × Value)) [] → Fr h₀ L g m → Fr g L' h₁ (fun y => (front ++ [(nm, Value.ref D)]).reverse.lookup y) → News g L' h₁ ((D, o) :: news) → Below A base (env :: outer) g → K.In g → Top p loose mean mg mb g → @LT.lt Nat _ D L' → Rests g rest → Under D (news ++ rest) →
      wpAny (model prog w) (A.deeper (envOf qual scope L' f cdv)) (execs body (envOf qual scope L' f cdv))
        (fun fl s' => LeaveK h₀ L m g R (match fl with | .ret v => v | _ => .none) s')
        (fun e s' => wpAny (model prog w) (A.deeper (envOf qual scope L' f cdv)) (leaving (envOf qual scope L' f cdv) e) (fun _ s'' => R (.error e) s'') (fun e' s'' => R (.error e') s'') s')
        { s with heap := h₁, toks := tk })
    (hco : scope.isCoroutine = false) (hgen : scope.isGenerator = false) (hk : scope.kind = .function)
    (hcell : ∀ x ∈ scope.names, x.2 ≠ .cell) : codeAny (model prog w) A (.call (.ref f) args) R s := by
  refine codeAny_call_function (fd := fnX name qual params body scope [] dV kV doc pm an cdv ct) (body := body) hroom ((X₀.keeps F.keep) _ _ ho) rfl hco hgen rfl (codeRec_of (X₀.keeps F.keep) hcd) ?_
  refine wp_of_peekA (o := dictOf [] 0) F N (X₀.keeps F.keep) rfl _ g₁ hp fun h' F' N' l => ?_
  rw [hk₁, List.forIn_nil]
  refine wpAny_bind (wpAny_pure (wpAny_pure ?_))
  have ap' : Apart ((s.heap.objs.size, dictOf [] 0) :: news) rest := fun q hq q2 hq2 => by
    rcases List.mem_cons.mp hq with rfl | hq
    · exact (Nat.ne_of_lt (l q2 (List.mem_append_right _ hq2))).symm
    · exact ap q hq q2 hq2
  refine kp_frameR (cl := []) (news := (s.heap.objs.size, dictOf [] 0) :: news) (rest := rest) (s := { s with heap := h' }) B F' (fun q hq => N' q (by
      rcases List.mem_cons.mp hq with rfl | hq
      · exact List.mem_cons_self ..
      · exact List.mem_cons_of_mem _ (List.mem_append_left _ hq))) (fun q hq => N' q (List.mem_cons_of_mem _ (List.mem_append_right _ hq))) ap' T.nolimit hA hf hke (hloc _)
    (fun g L' h₁ FG FL NG BG st lt r u => h _ _ g L' h₁ _ (fun q hq => l q (List.mem_append_left _ hq)) (F.notModules (modules_low T.nolimit)) (kp_isDict (ex := []) s.toks 0 List.nodup_nil) .nil FG FL NG BG (X₀.keeps st) (T.keeps st) (lt _ (List.mem_cons_self ..)) r l) hcell hk
end
noncomputable def OkK (w : World) (p : Program) (loose : List PySem.Str) (mean : ExcName → Option Value) (mg mb : PySem.Str → Option Value) (f : Addr) (vs : List Value) (kw : List (PySem.Str × Value)) (need : Nat) (news : Led) (Post : Nat → Led → Value → Prop) : Prop :=
  ∀ (dp un : Nat) (gd : Option (List Code)) (cn : PySem.Str) (cs : Scope) (a : Addr) (ccd : Value) (cl : List (PySem.Str × Addr)) (outer : List Env) (A₀ : Around) (base h₀ : Heap) (L : Addr) (m : PySem.Str → Option Value) (s : Shared) (rest : Led)
    (Q E : Value → Shared → Prop),
    Below A₀ base outer h₀ → Fr h₀ L s.heap m → (hd.heap_1 w.params).In h₀ → News h₀ L s.heap (news ++ rest) → Apart news rest → Top p loose mean mg mb h₀ → cs.kind = .function → dp + need < recursionLimit → un + 8 * need < cLine →
    (∀ b r news' h' tk', Under b (news ++ rest) → Fr h₀ L h' m → News h₀ L h' (news' ++ rest) → Post b news' r → Q r { s with heap := h', toks := tk' }) →
    wpAny (model PySem.Challenge.rw_wy0040_01.row.toRowW.prog w) (ktrTop dp un gd cn cs L a ccd cl outer) (call (.ref f) vs kw) Q E s
theorem OkK.use {f : Addr} {vs : List Value} {kw : List (PySem.Str × Value)} {need : Nat} {news l rest : Led} {Post : Nat → Led → Value → Prop} {dp un : Nat} {gd : Option (List Code)} {cn : PySem.Str} {cs : Scope} {a : Addr} {ccd : Value} {cl : List (PySem.Str × Addr)} {outer : List Env} {A₀ : Around} {base h₀ : Heap} {L : Addr} {m : PySem.Str → Option Value} {s : Shared}
    {Q E : Value → Shared → Prop} (B : Below A₀ base outer h₀) (F : Fr h₀ L s.heap m) (X : (hd.heap_1 w.params).In h₀) (N : News h₀ L s.heap l) (T : Top p loose mean mg mb h₀) (hk : cs.kind = .function)
    (C : OkK w p loose mean mg mb f vs kw need news Post) (P : Picks news l rest) (ap : Apart news rest) (hd : dp + need < recursionLimit) (hu : un + 8 * need < cLine)
    (ret : ∀ b r news' h' tk', Under b (news ++ rest) → Fr h₀ L h' m → News h₀ L h' (news' ++ rest) → Post b news' r → Q r { s with heap := h', toks := tk' }) :
    wpAny (model PySem.Challenge.rw_wy0040_01.row.toRowW.prog w) (ktrTop dp un gd cn cs L a ccd cl outer) (call (.ref f) vs kw) Q E s :=
  C _ _ _ _ _ _ _ _ _ _ _ _ _ _ _ _ _ _ B F X (fun q hq => N q (P.mem q hq)) ap T hk hd hu ret
noncomputable def Clean (x : PySem.Str) : Prop := ∀ (w : World) (p : Program) (t : Tok), peek (hd.heap_1 w.params) ⟨p, w.params⟩ (Builtin.«re.Pattern.search» ⟨[.ref 118, .str x t], []⟩) = some (.done (.ret .none)) ∧
  peek (hd.heap_1 w.params) ⟨p, w.params⟩ (Builtin.«re.Pattern.search» ⟨[.ref 123, .str x t], []⟩) = some (.done (.ret .none))
section
variable {prog : Program} {A : Around} {E : Value → Shared → Prop} {s : Shared}
theorem re_method {K : Frag} {a : Addr} {o : Obj} {pl : Sem Bool} {Q : Value × List Value → Shared → Prop} (X : K.In s.heap) (e : K.lookup a = some o) (hc : o.cls = .type "re.Pattern") (hdd : o.dict = none)
    (h : Q (.builtin "re.Pattern.search", [.ref a]) s) : wpAny (model prog w) A (getMethod (.ref a) (PySem.Str.ofString "search") pl) Q E s :=
  getMethod_builtin ⟨o, X _ _ e, hc⟩ plain_re slot_re type_re (fun b q => by cases q; exact ⟨o, X _ _ e, hdd⟩) h
theorem re_search {K : Frag} {a : Addr} {o : Obj} {x : Value} {r : Value} {Q : Value → Shared → Prop} (X : K.In s.heap) (e : K.lookup a = some o) (hc : o.cls = .type "re.Pattern")
    (hp : peek K ⟨prog, w.params⟩ (Builtin.«re.Pattern.search» ⟨[.ref a, x], []⟩) = some (.done (.ret r))) (h : Q r s) : wpAny (model prog w) A (call (.builtin "re.Pattern.search") [.ref a, x]) Q E s :=
  wpAny_call (codeAny_call_builtin slot_re.plain entry_re (slot_re.check _ _ _ _ _ _ _ _ ⟨o, X _ _ e, hc⟩ (args_re _ _) ((Looks.of_peek (M := model prog w) X hp).here h)))
end
set_option maxHeartbeats 4000000 in
theorem cst {x : Addr} {tv : Tok} {vl : PySem.Str} {nmv : Bool} (hcl : Clean vl) :
    OkK w p loose mean mg mb 153 [.ref x, .str vl tv] [(PySem.Str.ofString "name", .bool nmv)] 20 []
      (fun bd n' r => n' = [] ∧ r = .str vl tv) := by
  unfold OkK
  k_fill
  intro dp un gd cn cs fa ccd cl outer A₀ base h₀ L m s rest Q E B F X N ap T hk hd hu hret
  refine wpAny_call ?_
  (k_dflt (refine' code_defR ?k1n25 ?k2n25 ?k3n25 ?k4n25 ?kapn25 ?k5n25 ?kAn25 ?kFn25 ?kKn25 ?k6n25 ?k7n25 ?k8n25 ?k9n25 ?kBn25 ?_ ?c2n25 ?c3n25 ?c4n25 ?c5n25; (case kAn25 | kFn25 => exact rfl); (case kKn25 | k4n25 | kapn25 => assumption); (case k1n25 | k2n25 | k3n25 | k5n25 => k_asm); (case k6n25 | k7n25 => k_is); (case k8n25 => (first | exact room1 (by assumption) rfl | exact room0 (by assumption) | ktr_room)); (case k9n25 => first | exact BindsTo.of_eq rfl | exact binds_K (by k_in) rfl (by k_is) rfl rfl rfl | (refine' kp_binds ?kxn25 ?ken25; (case kxn25 => k_in); (case ken25 => exact fun _ => rfl))); (case c5n25 => decide); (case kBn25 => exact locs rfl); (case c2n25 | c3n25 | c4n25 => exact rfl))); ktr_enter
  (repeat' (first | (k_unfold; (try dsimp only)) | ((fail_if_success (with_reducible first | show wpAny _ _ (PySem.call (Value.ref _) _) _ _ _ | show wpAny _ _ (pyIter (Value.ref _)) _ _ _ | show _ ≤ _ | show UnrEnd _ _ _ _ _ _ _ | show UnrPost _ _ _ _ _ _ _ _ _)); (first | walk1 | (dsimp only; walk1)) <;> (try dsimp only)) | (leave1; try dsimp only) | fail "no step"))
  · k_dflt (refine' re_method ?kx ?ke ?kc ?kd ?_; (case kx => k_in); (case ke => k_is); (case kc => exact rfl); (case kd => exact rfl))
    (repeat' (first | (k_unfold; (try dsimp only)) | ((fail_if_success (with_reducible first | show wpAny _ _ (PySem.call (Value.ref _) _) _ _ _ | show wpAny _ _ (pyIter (Value.ref _)) _ _ _ | show _ ≤ _ | show UnrEnd _ _ _ _ _ _ _ | show UnrPost _ _ _ _ _ _ _ _ _)); (first | walk1 | (dsimp only; walk1)) <;> (try dsimp only)) | (leave1; try dsimp only) | fail "no step"))
    k_dflt (refine' re_search ?kx ?ke ?kc ?kp ?_; (case kx => k_in); (case ke => k_is); (case kc => exact rfl); (case kp => exact (hcl _ _ _).1))
    (repeat' (first | (k_unfold; (try dsimp only)) | ((fail_if_success (with_reducible first | show wpAny _ _ (PySem.call (Value.ref _) _) _ _ _ | show wpAny _ _ (pyIter (Value.ref _)) _ _ _ | show _ ≤ _ | show UnrEnd _ _ _ _ _ _ _ | show UnrPost _ _ _ _ _ _ _ _ _)); (first | walk1 | (dsimp only; walk1)) <;> (try dsimp only)) | (leave1; try dsimp only) | fail "no step"))
    have hR : News h₀ L _ ([] ++ rest) := rests (news := []) (by assumption) N (by assumption) (by assumption)
    exact hret _ _ _ _ _ (by assumption) (by assumption) hR ⟨rfl, rfl⟩
  · k_dflt (refine' re_method ?kx ?ke ?kc ?kd ?_; (case kx => k_in); (case ke => k_is); (case kc => exact rfl); (case kd => exact rfl))
    (repeat' (first | (k_unfold; (try dsimp only)) | ((fail_if_success (with_reducible first | show wpAny _ _ (PySem.call (Value.ref _) _) _ _ _ | show wpAny _ _ (pyIter (Value.ref _)) _ _ _ | show _ ≤ _ | show UnrEnd _ _ _ _ _ _ _ | show UnrPost _ _ _ _ _ _ _ _ _)); (first | walk1 | (dsimp only; walk1)) <;> (try dsimp only)) | (leave1; try dsimp only) | fail "no step"))
    k_dflt (refine' re_search ?kx ?ke ?kc ?kp ?_; (case kx => k_in); (case ke => k_is); (case kc => exact rfl); (case kp => exact (hcl _ _ _).2))
    (repeat' (first | (k_unfold; (try dsimp only)) | ((fail_if_success (with_reducible first | show wpAny _ _ (PySem.call (Value.ref _) _) _ _ _ | show wpAny _ _ (pyIter (Value.ref _)) _ _ _ | show _ ≤ _ | show UnrEnd _ _ _ _ _ _ _ | show UnrPost _ _ _ _ _ _ _ _ _)); (first | walk1 | (dsimp only; walk1)) <;> (try dsimp only)) | (leave1; try dsimp only) | fail "no step"))
    have hR : News h₀ L _ ([] ++ rest) := rests (news := []) (by assumption) N (by assumption) (by assumption)
    exact hret _ _ _ _ _ (by assumption) (by assumption) hR ⟨rfl, rfl⟩
end
end
theorem offAH : True := by
  w_top off
  exact True.intro
section
open PySem PySem.W PySem.Spec PySem.Calls PyProof.Rows
section
variable {w : World} {p : Program} {loose : List PySem.Str} {mean : ExcName → Option Value} {mg mb : PySem.Str → Option Value}
inductive PAH (w : World) (x d l : Addr) (t tn : Tok) (vs : List Value) (cp : Nat) (nm vl : PySem.Str) (bd : Nat) (n' : Led) (r : Value) : Prop
  | mk (T : Addr) (tu : Tok) (h : @LT.lt Nat _ bd T) (e : n' = [(T, tupO [.str nm tn, .str vl tu]), (x, instObj 252 d), (d, hDict w l t), (l, lstC (vs ++ [.ref T]) (cp + 1))]) (e2 : r = .none)
set_option maxHeartbeats 4000000 in
theorem hadd {x d l : Addr} {t tn tv : Tok} {vs : List Value} {cp : Nat} {nm vl : PySem.Str} (hn : Clean nm) (hv : Clean vl) (hlen : vl.length ≤ 1000) (hvs : vs.length ≤ 1000) (d1 : @Ne Nat x d) (d2 : @Ne Nat x l) (d3 : @Ne Nat d l) :
    Ok w p loose mean mg mb 249 [.ref x, .str nm tn, .str vl tv] 40 [(x, instObj 252 d), (d, hDict w l t), (l, lstC vs cp)]
      (PAH w x d l t tn vs cp nm vl) := by
  unfold Ok
  k_fill
  intro dp un gd cn cs fa ccd cl outer A₀ base h₀ L m s rest Q E B F X N ap T hk hC hd hu hret
  refine wpAny_call ?_
  k_dflt (refine' code_moreR ?k1 ?k2 ?k3 ?k4 ?kap ?k5 ?kA ?kF ?kK ?k6 ?k7 ?k8 ?kP ?kT ?kB ?_ ?c2 ?c3 ?c4 ?c5; (case kA => exact rfl); (case kF => exact rfl); (case kK => assumption); (case k1 => k_asm); (case k2 => k_asm); (case k3 => k_asm); (case k4 => assumption); (case kap => assumption); (case k5 => k_asm); (case k6 => k_is); (case k7 => k_is); (case k8 => (first | exact room1 (by assumption) rfl | exact room0 (by assumption) | ktr_room)); (case kP => exact rfl); (case kT => exact fun _ => rfl); (case kB => exact fun _ => locs rfl); (case c5 => decide); (case c2 => exact rfl); (case c3 => exact rfl); (case c4 => exact rfl); k_whole; intro D' o' g' L' h' tk' l0 lo' hs' fs' FG' F' N' B' X' T' l1 R' U'; (try k_lt l0); (try dsimp only); (try k_fold))
  (repeat' (first | (k_unfold; (try dsimp only)) | ((fail_if_success (with_reducible first | show wpAny _ _ (PySem.call (Value.ref _) _) _ _ _ | show wpAny _ _ (pyIter (Value.ref _)) _ _ _ | show _ ≤ _ | show UnrEnd _ _ _ _ _ _ _ | show UnrPost _ _ _ _ _ _ _ _ _)); (first | walk1 | (dsimp only; walk1)) <;> (try dsimp only)) | (leave1; try dsimp only) | fail "no step"))
  change wpAny _ _ (call (.ref 153) [_, _] [(PySem.Str.ofString "name", .bool false)]) _ _ _
  k_dflt (refine' OkK.use ?k1 ?k2 ?k3 ?k4 ?k5 ?kK (cst hv) ?kP ?kap ?kd ?ku ?_; (case k1 => k_asm); (case k2 => k_asm); (case k3 => k_asm); (case k4 => k_asm); (case k5 => k_asm); (case kK => exact rfl); (case kP => (repeat' first | exact Picks.nil | (with_reducible exact Pick.head) | apply Picks.cons | apply Pick.tail)); (case kap => exact fun _ h => nomatch h); (case kd => (first | exact room1 (by assumption) rfl | exact room0 (by assumption) | ktr_room)); (case ku => (first | exact units1 (by assumption) rfl | ktr_units)))
  intro b9 r9 n9 h9 tk9 U9 F9 N9 hp9
  obtain ⟨rfl, rfl⟩ := hp9
  simp only [List.cons_append, List.nil_append, List.append_nil] at N9
  clear U9
  try dsimp only
  (repeat' (first | (k_unfold; (try dsimp only)) | ((fail_if_success (with_reducible first | show wpAny _ _ (PySem.call (Value.ref _) _) _ _ _ | show wpAny _ _ (pyIter (Value.ref _)) _ _ _ | show _ ≤ _ | show UnrEnd _ _ _ _ _ _ _ | show UnrPost _ _ _ _ _ _ _ _ _)); (first | walk1 | (dsimp only; walk1)) <;> (try dsimp only)) | (leave1; try dsimp only) | fail "no step"))
  change wpAny _ _ (call (.ref 153) [_, _] [(PySem.Str.ofString "name", .bool true)]) _ _ _
  k_dflt (refine' OkK.use ?k1 ?k2 ?k3 ?k4 ?k5 ?kK (cst hn) ?kP ?kap ?kd ?ku ?_; (case k1 => k_asm); (case k2 => k_asm); (case k3 => k_asm); (case k4 => k_asm); (case k5 => k_asm); (case kK => exact rfl); (case kP => (repeat' first | exact Picks.nil | (with_reducible exact Pick.head) | apply Picks.cons | apply Pick.tail)); (case kap => exact fun _ h => nomatch h); (case kd => (first | exact room1 (by assumption) rfl | exact room0 (by assumption) | ktr_room)); (case ku => (first | exact units1 (by assumption) rfl | ktr_units)))
  intro b9 r9 n9 h9 tk9 U9 F9 N9 hp9
  obtain ⟨rfl, rfl⟩ := hp9
  simp only [List.cons_append, List.nil_append, List.append_nil] at N9
  clear U9
  try dsimp only
  (repeat' (first | (k_unfold; (try dsimp only)) | ((fail_if_success (with_reducible first | show wpAny _ _ (PySem.call (Value.ref _) _) _ _ _ | show wpAny _ _ (pyIter (Value.ref _)) _ _ _ | show _ ≤ _ | show UnrEnd _ _ _ _ _ _ _ | show UnrPost _ _ _ _ _ _ _ _ _)); (first | walk1 | (dsimp only; walk1)) <;> (try dsimp only)) | (leave1; try dsimp only) | fail "no step"))
  have hj : PySem.Txt.join (PySem.Str.ofString "; ") [vl] = vl := by
    show Builtin.Str.glued _ [vl] = _
    rw [StrLaws.glued_eq_join]; rfl
  have hR : News h₀ L _ ([(_, tupO [.str nm tn, .str (PySem.Txt.join (PySem.Str.ofString "; ") [vl]) _]), (x, instObj 252 d), (d, hDict w l t), (l, W.listOf (vs.toArray.push _) (cp + 1))] ++ rest) := rests (news := [(x, instObj 252 d), (d, hDict w l t), (l, lstC vs cp)]) (cb_drop (by assumption) (by k_allIn)) N (by assumption) (by assumption)
  rw [hj, List.push_toArray] at hR
  exact hret D' _ _ _ _ U' (by assumption) hR ⟨_, _, by (first | lia | omega), rfl, rfl⟩
end
end
theorem offGT : True := by
  w_top off
  exact True.intro
section
open PySem PySem.W PySem.Spec PySem.Calls PyProof.Rows
section
variable {w : World} {p : Program} {loose : List PySem.Str} {mean : ExcName → Option Value} {mg mb : PySem.Str → Option Value}
structure HE where
  a : Addr
  nm : PySem.Str
  tn : Tok
  vl : PySem.Str
  tv : Tok
noncomputable abbrev HE.obj (e : HE) : Addr × Obj := (e.a, tupO [.str e.nm e.tn, .str e.vl e.tv])
noncomputable abbrev HE.ref (e : HE) : Value := .ref e.a
noncomputable def getOf (k : PySem.Str) : List HE → Value
  | [] => .none
  | e :: r => if PySem.Txt.lower e.nm = k then .str e.vl e.tv else getOf k r
theorem under_assoc {b : Nat} {A B C : Led} (h : Under b (A ++ (B ++ C))) : Under b ((A ++ B) ++ C) := by rw [List.append_assoc]; exact h
theorem news_assoc {h₀ h : Heap} {L : Addr} {A B C : Led} (N : News h₀ L h (A ++ (B ++ C))) : News h₀ L h ((A ++ B) ++ C) := by rw [List.append_assoc]; exact N
theorem apart_move {A B rest : Led} (h1 : Apart (A ++ B) rest) (h2 : ∀ p ∈ A, ∀ q ∈ B, @Ne Nat p.1 q.1) : Apart A (B ++ rest) := fun p hp q hq => by
  rcases List.mem_append.mp hq with hq | hq
  · exact h2 p hp q hq
  · exact h1 p (List.mem_append_left _ hp) q hq
section
variable {prog : Program} {A : Around} {E : Value → Shared → Prop} {env : Env} {h₀ : Heap} {target : Expr} {body : List Stmt} {Q : Flow → Shared → Prop} {s : Shared} {I : Addr} {c : String} {keep : Led}
theorem turns_ind {α : Type} (f : α → Value) (Inv : List α → (PySem.Str → Option Value) → Led → Prop)
    (h0 : ∀ m news, Inv [] m news → ∀ h tk, Fr h₀ env.locals h m → News h₀ env.locals h news → Q .next { s with heap := h, toks := tk })
    (h1 : ∀ a r m news, Inv (a :: r) m news → ∀ (it : Obj) h tk, it.cls = .type c → Fr h₀ env.locals h m → News h₀ env.locals h ((I, it) :: news) →
      wpAny (model prog w) A (assign target env (f a)) (fun _ s₂ => wpAny (model prog w) A (execs body env) (UnrPostW h₀ env.locals { s with heap := h, toks := tk } [(I, it)] (fun m' n' => SubL keep n' ∧ Inv r m' n') Q) E s₂) E { s with heap := h, toks := tk }) :
    ∀ (l : List α) m news, Inv l m news → ItemsRest prog w A E h₀ env target body Q s [(I, c)] keep ((l.map f).map .val) m news
  | [], m, news, hi => fun h tk F N => h0 m news hi h tk F N
  | a :: r, m, news, hi => fun v h tk e F it hc N => by
    have e' : v = f a := e
    subst e'
    refine wpAny_mono (h1 a r m news hi it h tk hc F N) (fun _ s₂ h2 => wpAny_mono h2 (fun fl s' hp => ?_) fun _ _ e => e) fun _ _ e => e
    cases fl with
    | ret v => exact hp
    | brk => exact hp
    | next => obtain ⟨h', tk', m', n', e, F', N', off, l, i⟩ := hp; exact ⟨h', tk', m', n', e, F', N', off, l, turns_ind f Inv h0 h1 r m' n' i⟩
    | cont => obtain ⟨h', tk', m', n', e, F', N', off, l, i⟩ := hp; exact ⟨h', tk', m', n', e, F', N', off, l, turns_ind f Inv h0 h1 r m' n' i⟩
end
set_option maxHeartbeats 4000000 in
theorem hget {x d l : Addr} {t tn : Tok} {cp : Nat} {nm : PySem.Str} {es : List HE} (hn : Clean (PySem.Txt.lower nm)) (d1 : @Ne Nat x d) (d2 : @Ne Nat x l) (d3 : @Ne Nat d l)
    (he : ∀ e ∈ es, @Ne Nat x e.a ∧ @Ne Nat d e.a ∧ @Ne Nat l e.a) (hvs : es.length ≤ 1000) (hnl : nm.length ≤ 1000) (hel : ∀ e ∈ es, e.nm.length ≤ 1000) :
    Ok w p loose mean mg mb 199 [.ref x, .str nm tn] 40 ([(x, instObj 252 d), (d, hDict w l t), (l, lstC (es.map HE.ref) cp)] ++ es.map HE.obj)
      (fun bd n' r => n' = [(x, instObj 252 d), (d, hDict w l t), (l, lstC (es.map HE.ref) cp)] ++ es.map HE.obj ∧ r = getOf (PySem.Txt.lower nm) es) := by
  unfold Ok
  k_fill
  intro dp un gd cn cs fa ccd cl outer A₀ base h₀ L m s rest Q E B F X N ap T hk hC hd hu hret
  have ap2 : Apart [(x, instObj 252 d), (d, hDict w l t), (l, lstC (es.map HE.ref) cp)] (es.map HE.obj ++ rest) := apart_move ap (fun q hq q2 hq2 => by
    obtain ⟨e, hee, rfl⟩ := List.mem_map.mp hq2
    obtain ⟨y1, y2, y3⟩ := he e hee
    rcases List.mem_cons.mp hq with rfl | hq
    · exact y1
    rcases List.mem_cons.mp hq with rfl | hq
    · exact y2
    rcases List.mem_cons.mp hq with rfl | hq
    · exact y3
    cases hq)
  have N2 : News h₀ L s.heap ([(x, instObj 252 d), (d, hDict w l t), (l, lstC (es.map HE.ref) cp)] ++ (es.map HE.obj ++ rest)) := by rw [← List.append_assoc]; exact N
  have hret2 := hret
  clear hret
  clear ap N
  have N := N2
  clear N2
  refine wpAny_call ?_
  (k_dflt (refine' code_defR ?k1n26 ?k2n26 ?k3n26 ?k4n26 ?kapn26 ?k5n26 ?kAn26 ?kFn26 ?kKn26 ?k6n26 ?k7n26 ?k8n26 ?k9n26 ?kBn26 ?_ ?c2n26 ?c3n26 ?c4n26 ?c5n26; (case kAn26 | kFn26 => exact rfl); (case kKn26 | k4n26 | kapn26 => assumption); (case k1n26 | k2n26 | k3n26 | k5n26 => k_asm); (case k6n26 | k7n26 => k_is); (case k8n26 => (first | exact room1 (by assumption) rfl | exact room0 (by assumption) | ktr_room)); (case k9n26 => first | exact BindsTo.of_eq rfl | exact binds_K (by k_in) rfl (by k_is) rfl rfl rfl | (refine' kp_binds ?kxn26 ?ken26; (case kxn26 => k_in); (case ken26 => exact fun _ => rfl))); (case c5n26 => decide); (case kBn26 => exact locs rfl); (case c2n26 | c3n26 | c4n26 => exact rfl))); ktr_enter
  (repeat' (first | (k_unfold; (try dsimp only)) | ((fail_if_success (with_reducible first | show wpAny _ _ (PySem.call (Value.ref _) _) _ _ _ | show wpAny _ _ (pyIter (Value.ref _)) _ _ _ | show _ ≤ _ | show UnrEnd _ _ _ _ _ _ _ | show UnrPost _ _ _ _ _ _ _ _ _)); (first | walk1 | (dsimp only; walk1)) <;> (try dsimp only)) | (leave1; try dsimp only) | fail "no step"))
  change wpAny _ _ (call (.ref 153) [_, _] [(PySem.Str.ofString "name", .bool true)]) _ _ _
  k_dflt (refine' OkK.use ?k1 ?k2 ?k3 ?k4 ?k5 ?kK (cst hn) ?kP ?kap ?kd ?ku ?_; (case k1 => k_asm); (case k2 => k_asm); (case k3 => k_asm); (case k4 => k_asm); (case k5 => k_asm); (case kK => exact rfl); (case kP => (repeat' first | exact Picks.nil | (with_reducible exact Pick.head) | apply Picks.cons | apply Pick.tail)); (case kap => exact fun _ h => nomatch h); (case kd => (first | exact room1 (by assumption) rfl | exact room0 (by assumption) | ktr_room)); (case ku => (first | exact units1 (by assumption) rfl | ktr_units)))
  intro b9 r9 n9 h9 tk9 U9 F9 N9 hp9
  obtain ⟨rfl, rfl⟩ := hp9
  simp only [List.cons_append, List.nil_append, List.append_nil] at N9
  clear U9
  try dsimp only
  (repeat' (first | (k_unfold; (try dsimp only)) | ((fail_if_success (with_reducible first | show wpAny _ _ (PySem.call (Value.ref _) _) _ _ _ | show wpAny _ _ (pyIter (Value.ref _)) _ _ _ | show _ ≤ _ | show UnrEnd _ _ _ _ _ _ _ | show UnrPost _ _ _ _ _ _ _ _ _)); (first | walk1 | (dsimp only; walk1)) <;> (try dsimp only)) | (leave1; try dsimp only) | fail "no step"))
  (rename Fr _ _ _ _ => lF'); (with_unfolding_all refine' For_turns lF' ?_); k_whole
  (repeat' (first | (k_unfold; (try dsimp only)) | ((fail_if_success (with_reducible first | show wpAny _ _ (PySem.call (Value.ref _) _) _ _ _ | show wpAny _ _ (pyIter (Value.ref _)) _ _ _ | show _ ≤ _ | show UnrEnd _ _ _ _ _ _ _ | show UnrPost _ _ _ _ _ _ _ _ _)); (first | walk1 | (dsimp only; walk1)) <;> (try dsimp only)) | (leave1; try dsimp only) | fail "no step"))
  (rename Fr _ _ _ _ => lF2); (rename News _ _ _ _ => lN2)
  with_unfolding_all refine iter_listTurns (lo := lstC (es.map HE.ref) cp) (vs := es.map HE.ref) (n := cp) (by rfl) lF2 lN2 (by k_mem) (by rfl) (by rfl) ?_
  intro I hI
  have hU : Under _ (([(x, instObj 252 d), (d, hDict w l t), (l, lstC (es.map HE.ref) cp)] ++ es.map HE.obj) ++ rest) := under_assoc (by assumption)
  (rename Rests _ _ => hR')
  refine turns_ind HE.ref (fun es' m' n' => ∃ tl, (∀ e ∈ es', e ∈ es) ∧ getOf (PySem.Txt.lower nm) es = getOf (PySem.Txt.lower nm) es' ∧ m' "name" = some (.str (PySem.Txt.lower nm) tl) ∧ m' "default" = some .none ∧ n' = [(x, instObj 252 d), (d, hDict w l t), (l, lstC (es.map HE.ref) cp)]) ?_ ?_ _ _ _ ⟨_, fun _ h => h, rfl, rfl, rfl, rfl⟩
  · rintro m1 n1 ⟨tl, hes, hg, e1, e2, rfl⟩ h1 tk1 F1 N1
    replace F1 := see2 F1 e1 e2
    (repeat' (first | (k_unfold; (try dsimp only)) | ((fail_if_success (with_reducible first | show wpAny _ _ (PySem.call (Value.ref _) _) _ _ _ | show wpAny _ _ (pyIter (Value.ref _)) _ _ _ | show _ ≤ _ | show UnrEnd _ _ _ _ _ _ _ | show UnrPost _ _ _ _ _ _ _ _ _)); (first | walk1 | (dsimp only; walk1)) <;> (try dsimp only)) | (leave1; try dsimp only) | fail "no step"))
    have hR : News h₀ L _ (([(x, instObj 252 d), (d, hDict w l t), (l, lstC (es.map HE.ref) cp)] ++ es.map HE.obj) ++ rest) := news_assoc (rests (news := [(x, instObj 252 d), (d, hDict w l t), (l, lstC (es.map HE.ref) cp)]) (nn := [(x, instObj 252 d), (d, hDict w l t), (l, lstC (es.map HE.ref) cp)]) (cb_drop (by assumption) (by k_allIn)) N hR' (by assumption))
    exact hret2 _ _ _ _ _ hU (by assumption) hR ⟨rfl, hg.symm⟩
  · rintro e es' m1 n1 ⟨tl, hes, hg, e1, e2, rfl⟩ it h1 tk1 hcl F1 N1
    replace F1 := see2 F1 e1 e2
    have hem := hes e (List.mem_cons_self ..)
    have hT : IsTup h1 e.a #[.str e.nm e.tn, .str e.vl e.tv] := ⟨_, F1.keep _ _ (hR' _ (List.mem_append_left _ (List.mem_map_of_mem hem))), rfl, 0, rfl⟩
    have hl2 := hel e hem
    have hgt : (PySem.Txt.lower e.nm == PySem.Txt.lower nm) = true → getOf (PySem.Txt.lower nm) es = .str e.vl e.tv := fun q => by
      rw [hg, getOf, if_pos (by simpa using q)]
    have hgf : (PySem.Txt.lower e.nm == PySem.Txt.lower nm) = false → getOf (PySem.Txt.lower nm) es = getOf (PySem.Txt.lower nm) es' := fun q => by
      rw [hg, getOf, if_neg (by simpa using q)]
    have hes2 : ∀ e ∈ es', e ∈ es := fun y hy => hes y (List.mem_cons_of_mem _ hy)
    (repeat' (first | (k_unfold; (try dsimp only)) | ((fail_if_success (with_reducible first | show wpAny _ _ (PySem.call (Value.ref _) _) _ _ _ | show wpAny _ _ (pyIter (Value.ref _)) _ _ _ | show _ ≤ _ | show UnrEnd _ _ _ _ _ _ _ | show UnrPost _ _ _ _ _ _ _ _ _)); (first | walk1 | (dsimp only; walk1)) <;> (try dsimp only)) | (leave1; try dsimp only) | fail "no step"))
    all_goals first
      | exact hes2
      | exact hes2 _ (by assumption)
      | exact hgf (by assumption)
      | (have hR : News h₀ L _ (([(x, instObj 252 d), (d, hDict w l t), (l, lstC (es.map HE.ref) cp)] ++ es.map HE.obj) ++ rest) := news_assoc (rests (news := [(x, instObj 252 d), (d, hDict w l t), (l, lstC (es.map HE.ref) cp)]) (nn := [(x, instObj 252 d), (d, hDict w l t), (l, lstC (es.map HE.ref) cp)]) (cb_drop (by assumption) (by k_allIn)) N hR' (by assumption))
         exact hret2 _ _ _ _ _ hU (by assumption) hR ⟨rfl, (hgt (by assumption)).symm⟩)
end
end
theorem offSD : True := by
  w_top off
  exact True.intro
section
open PySem PySem.W PySem.Spec PySem.Calls PyProof.Rows
section
variable {w : World} {p : Program} {loose : List PySem.Str} {mean : ExcName → Option Value} {mg mb : PySem.Str → Option Value}
theorem Picks.all : ∀ {l : Led}, Picks l l []
  | [] => .nil
  | _ :: _ => .cons .head Picks.all
set_option maxHeartbeats 4000000 in
theorem hset {x d l : Addr} {t tn te : Tok} {cp : Nat} {nm vl : PySem.Str} {tv : Tok} {dv : Value} {es : List HE} (hn : Clean (PySem.Txt.lower nm)) (d1 : @Ne Nat x d) (d2 : @Ne Nat x l) (d3 : @Ne Nat d l)
    (he : ∀ e ∈ es, @Ne Nat x e.a ∧ @Ne Nat d e.a ∧ @Ne Nat l e.a) (hvs : es.length ≤ 1000) (hnl : nm.length ≤ 1000) (hel : ∀ e ∈ es, e.nm.length ≤ 1000) (hg : getOf (PySem.Txt.lower nm) es = .str vl tv) :
    Ok w p loose mean mg mb 242 [.ref x, .str nm tn, dv] 50 ([(x, instObj 252 d), (d, hDict w l t), (l, lstC (es.map HE.ref) cp)] ++ es.map HE.obj)
      (fun bd n' r => n' = [(x, instObj 252 d), (d, hDict w l t), (l, lstC (es.map HE.ref) cp)] ++ es.map HE.obj ∧ r = .str vl tv) := by
  unfold Ok
  k_fill
  intro dp un gd cn cs fa ccd cl outer A₀ base h₀ L m s rest Q E B F X N ap T hk hC hd hu hret
  refine wpAny_call ?_
  (k_dflt (refine' code_defR ?k1n27 ?k2n27 ?k3n27 ?k4n27 ?kapn27 ?k5n27 ?kAn27 ?kFn27 ?kKn27 ?k6n27 ?k7n27 ?k8n27 ?k9n27 ?kBn27 ?_ ?c2n27 ?c3n27 ?c4n27 ?c5n27; (case kAn27 | kFn27 => exact rfl); (case kKn27 | k4n27 | kapn27 => assumption); (case k1n27 | k2n27 | k3n27 | k5n27 => k_asm); (case k6n27 | k7n27 => k_is); (case k8n27 => (first | exact room1 (by assumption) rfl | exact room0 (by assumption) | ktr_room)); (case k9n27 => first | exact BindsTo.of_eq rfl | exact binds_K (by k_in) rfl (by k_is) rfl rfl rfl | (refine' kp_binds ?kxn27 ?ken27; (case kxn27 => k_in); (case ken27 => exact fun _ => rfl))); (case c5n27 => decide); (case kBn27 => exact locs rfl); (case c2n27 | c3n27 | c4n27 => exact rfl))); ktr_enter
  (repeat' (first | (k_unfold; (try dsimp only)) | ((fail_if_success (with_reducible first | show wpAny _ _ (PySem.call (Value.ref _) _) _ _ _ | show wpAny _ _ (pyIter (Value.ref _)) _ _ _ | show _ ≤ _ | show UnrEnd _ _ _ _ _ _ _ | show UnrPost _ _ _ _ _ _ _ _ _)); first | walk1 | (dsimp only; walk1)) | (leave1; try dsimp only) | fail "no step"))
  k_dflt (refine' Ok.use ?k1 ?k2 ?k3 ?k4 ?k5 ?kK ?kC (hget hn d1 d2 d3 he hvs hnl hel) ?kP ?kap ?kd ?ku ?_; (case k1 => k_asm); (case k2 => k_asm); (case k3 => k_asm); (case k4 => k_asm); (case k5 => k_asm); (case kK => exact rfl); (case kC => assumption); (case kP => exact Picks.all); (case kap => exact fun _ _ _ h => nomatch h); (case kd => (first | exact room1 (by assumption) rfl | exact room0 (by assumption) | ktr_room)); (case ku => (first | exact units1 (by assumption) rfl | ktr_units)))
  intro b9 r9 n9 h9 tk9 U9 F9 N9 hp9
  obtain ⟨rfl, rfl⟩ := hp9
  rw [hg]
  simp only [List.append_nil] at N9
  try dsimp only
  (repeat' (first | (k_unfold; (try dsimp only)) | ((fail_if_success (with_reducible first | show wpAny _ _ (PySem.call (Value.ref _) _) _ _ _ | show wpAny _ _ (pyIter (Value.ref _)) _ _ _ | show _ ≤ _ | show UnrEnd _ _ _ _ _ _ _ | show UnrPost _ _ _ _ _ _ _ _ _)); first | walk1 | (dsimp only; walk1)) | (leave1; try dsimp only) | fail "no step"))
  have hR := rests (by assumption) N (by assumption) (by assumption)
  exact hret _ _ _ _ _ (by assumption) (by assumption) hR ⟨rfl, rfl⟩
inductive PSI (w : World) (x d l : Addr) (t : Tok) (vs : List Value) (cp : Nat) (bd : Nat) (n' : Led) (r : Value) : Prop
  | mk (l2 : Addr) (h : @LT.lt Nat _ bd l2) (e : n' = [(l2, lstO vs), (x, instObj 252 d), (d, hDict w l t), (l, lstC vs cp)]) (e2 : r = .ref l2)
set_option maxHeartbeats 4000000 in
theorem hitems {x d l : Addr} {t : Tok} {cp : Nat} {vs : List Value} (d1 : @Ne Nat x d) (d2 : @Ne Nat x l) (d3 : @Ne Nat d l) (hvs : vs.length ≤ 1000) :
    Ok w p loose mean mg mb 216 [.ref x] 20 [(x, instObj 252 d), (d, hDict w l t), (l, lstC vs cp)]
      (PSI w x d l t vs cp) := by
  unfold Ok
  k_fill
  intro dp un gd cn cs fa ccd cl outer A₀ base h₀ L m s rest Q E B F X N ap T hk hC hd hu hret
  refine wpAny_call ?_
  (k_dflt (refine' code_defR ?k1n28 ?k2n28 ?k3n28 ?k4n28 ?kapn28 ?k5n28 ?kAn28 ?kFn28 ?kKn28 ?k6n28 ?k7n28 ?k8n28 ?k9n28 ?kBn28 ?_ ?c2n28 ?c3n28 ?c4n28 ?c5n28; (case kAn28 | kFn28 => exact rfl); (case kKn28 | k4n28 | kapn28 => assumption); (case k1n28 | k2n28 | k3n28 | k5n28 => k_asm); (case k6n28 | k7n28 => k_is); (case k8n28 => (first | exact room1 (by assumption) rfl | exact room0 (by assumption) | ktr_room)); (case k9n28 => first | exact BindsTo.of_eq rfl | exact binds_K (by k_in) rfl (by k_is) rfl rfl rfl | (refine' kp_binds ?kxn28 ?ken28; (case kxn28 => k_in); (case ken28 => exact fun _ => rfl))); (case c5n28 => decide); (case kBn28 => exact locs rfl); (case c2n28 | c3n28 | c4n28 => exact rfl))); ktr_enter
  (rename Fr _ _ _ _ => qF)
  have qlt := qF.ns.lt
  (repeat' (first | (k_unfold; (try dsimp only)) | ((fail_if_success (with_reducible first | show wpAny _ _ (PySem.call (Value.ref _) _) _ _ _ | show wpAny _ _ (pyIter (Value.ref _)) _ _ _ | show _ ≤ _ | show UnrEnd _ _ _ _ _ _ _ | show UnrPost _ _ _ _ _ _ _ _ _)); first | walk1 | (dsimp only; walk1)) | (leave1; try dsimp only) | fail "no step"))
  have hR : News h₀ L _ ([(_, { cls := .type "list", data := .seq (slicePick vs.toArray none none none) }), (x, instObj 252 d), (d, hDict w l t), (l, lstC vs cp)] ++ rest) := rests (news := [(x, instObj 252 d), (d, hDict w l t), (l, lstC vs cp)]) (by assumption) N (by assumption) (by assumption)
  rw [slicePick_all] at hR
  exact hret _ _ _ _ _ (by assumption) (by assumption) hR ⟨_, Nat.lt_succ_of_lt qlt, rfl, rfl⟩
end
end
theorem offGA : True := by
  w_top off
  exact True.intro
section
open PySem PySem.W PySem.Spec PySem.Calls PyProof.Rows
section
variable {w : World} {p : Program} {loose : List PySem.Str} {mean : ExcName → Option Value} {mg mb : PySem.Str → Option Value}
section
open PyProof.Rows.LCg PyProof.Rows.LCt
variable {prog : Program} {A : Around} {s : Shared} {h₀ : Heap} {L : Addr} {m : PySem.Str → Option Value} {env : Env} {ct elt : Expr} {x : PySem.Str} {scope : Scope} {cl : List (PySem.Str × Addr)} {S : Led → Prop} {P : Nat → Value → Prop} {Fin : List Value → Led → Prop} {n : Nat}
theorem compT_ind (Inv : Nat → List Value → Led → Prop) (h0 : ∀ ys news, Inv n ys news → Fin ys news)
    (h1 : ∀ i ys news, i < n → Inv i ys news → ∀ v I oI C oC D m₂ h tk (E' : Value → Shared → Prop), P i v → NsObj oC m₂ → m₂ x = some v → Fr h₀ L h m → News h₀ L h ((I, oI) :: (C, oC) :: (D, lst ys) :: news) → Off3 I C D news → ((@Ne Nat I C) ∧ (@Ne Nat I D) ∧ (@Ne Nat C D)) →
      wpAny (model prog w) A (isTrue ct (compEnvC scope cl C env) (eval ct (compEnvC scope cl C env))) (fun ok s' => if ok = true then
        wpAny (model prog w) A (eval elt (compEnvC scope cl C env)) (CompEnd h₀ L m { s with heap := h, toks := tk } I oI C oC D (lst ys) S (fun y news' => Inv (i + 1) (ys ++ [y]) news')) E' s'
        else CompEnd h₀ L m { s with heap := h, toks := tk } I oI C oC D (lst ys) S (fun _ news' => Inv (i + 1) ys news') Value.none s') E' { s with heap := h, toks := tk }) :
    ∀ k i ys news, i + k = n → Inv i ys news → CompRestT prog w A h₀ L m env ct elt x scope cl s S P Fin k i ys news
  | 0, i, ys, news, e, hi => h0 ys news (by rw [← e]; exact hi)
  | k + 1, i, ys, news, e, hi => fun v I oI C oC D m₂ h tk E' hP hC hx F N off ne => by
    refine wpAny_mono (h1 i ys news (by (first | lia | omega)) hi v I oI C oC D m₂ h tk E' hP hC hx F N off ne) (fun ok s' h2 => ?_) fun _ _ e => e
    cases ok with
    | true =>
      rw [if_pos rfl] at h2 ⊢
      refine wpAny_mono h2 (fun y s2 h3 => ?_) fun _ _ e => e
      obtain ⟨h', tk', news', e1, F', N', off', hS, hI⟩ := h3
      exact ⟨h', tk', news', e1, F', N', off', hS, compT_ind Inv h0 h1 k (i + 1) _ _ (by (first | lia | omega)) hI⟩
    | false =>
      rw [if_neg (by decide)] at h2 ⊢
      obtain ⟨h', tk', news', e1, F', N', off', hS, hI⟩ := h2
      exact ⟨h', tk', news', e1, F', N', off', hS, compT_ind Inv h0 h1 k (i + 1) _ _ (by (first | lia | omega)) hI⟩
end
noncomputable def allOf (k : PySem.Str) (es : List HE) : List Value := (es.filter fun e => PySem.Txt.lower e.nm == k).map fun e => .str e.vl e.tv
noncomputable def OkL (w : World) (p : Program) (loose : List PySem.Str) (mean : ExcName → Option Value) (mg mb : PySem.Str → Option Value) (f : Addr) (vs : List Value) (need : Nat) (news : Led) (out : List Value) : Prop :=
  ∀ (dp un : Nat) (gd : Option (List Code)) (cn : PySem.Str) (cs : Scope) (a : Addr) (ccd : Value) (cl : List (PySem.Str × Addr)) (outer : List Env) (A₀ : Around) (base h₀ : Heap) (L : Addr) (m : PySem.Str → Option Value) (s : Shared) (rest : Led)
    (Q E : Value → Shared → Prop),
    Below A₀ base outer h₀ → Fr h₀ L s.heap m → (hd.heap_1 w.params).In h₀ → News h₀ L s.heap (news ++ rest) → Apart news rest → Top p loose mean mg mb h₀ → cs.kind = .function → dp + need < recursionLimit → un + 8 * need < cLine →
    (∀ l2 k h' tk', (∀ q ∈ news ++ rest, @Ne Nat q.1 l2) → Fr h₀ L h' m → News h₀ L h' ((l2, lstC out k) :: (news ++ rest)) → Q (.ref l2) { s with heap := h', toks := tk' }) →
    wpAny (model PySem.Challenge.rw_wy0040_01.row.toRowW.prog w) (ktrTop dp un gd cn cs L a ccd cl outer) (call (.ref f) vs) Q E s
theorem allOf_snoc {k : PySem.Str} {es : List HE} {i : Nat} {e : HE} (h : es[i]? = some e) : allOf k (es.take (i + 1)) = if (PySem.Txt.lower e.nm == k) = true then allOf k (es.take i) ++ [.str e.vl e.tv] else allOf k (es.take i) := by
  unfold allOf
  rw [List.take_add_one, h]
  split
  · rename_i q; simp [q, List.filter_cons]
  · rename_i q; simp [q, List.filter_cons]
set_option maxHeartbeats 4000000 in
theorem hall {x d l : Addr} {t tn : Tok} {cp : Nat} {nm : PySem.Str} {es : List HE} (hn : Clean (PySem.Txt.lower nm)) (d1 : @Ne Nat x d) (d2 : @Ne Nat x l) (d3 : @Ne Nat d l)
    (he : ∀ e ∈ es, @Ne Nat x e.a ∧ @Ne Nat d e.a ∧ @Ne Nat l e.a) (hvs : es.length ≤ 1000) (hnl : nm.length ≤ 1000) (hel : ∀ e ∈ es, e.nm.length ≤ 1000) :
    OkL w p loose mean mg mb 191 [.ref x, .str nm tn] 40 ([(x, instObj 252 d), (d, hDict w l t), (l, lstC (es.map HE.ref) cp)] ++ es.map HE.obj)
      (allOf (PySem.Txt.lower nm) es) := by
  unfold OkL
  k_fill
  intro dp un gd cn cs fa ccd cl outer A₀ base h₀ L m s rest Q E B F X N ap T hk hd hu hret
  have ap2 : Apart [(x, instObj 252 d), (d, hDict w l t), (l, lstC (es.map HE.ref) cp)] (es.map HE.obj ++ rest) := apart_move ap (fun q hq q2 hq2 => by
    obtain ⟨e, hee, rfl⟩ := List.mem_map.mp hq2
    obtain ⟨y1, y2, y3⟩ := he e hee
    rcases List.mem_cons.mp hq with rfl | hq
    · exact y1
    rcases List.mem_cons.mp hq with rfl | hq
    · exact y2
    rcases List.mem_cons.mp hq with rfl | hq
    · exact y3
    cases hq)
  have N2 : News h₀ L s.heap ([(x, instObj 252 d), (d, hDict w l t), (l, lstC (es.map HE.ref) cp)] ++ (es.map HE.obj ++ rest)) := by rw [← List.append_assoc]; exact N
  have hret2 := hret
  clear hret
  clear ap N
  have N := N2
  clear N2
  refine wpAny_call ?_
  (k_dflt (refine' code_defCR ?k1n29 ?k2n29 ?k3n29 ?k4n29 ?kapn29 ?k5n29 ?kAn29 ?kFn29 ?kKn29 ?k6n29 ?k7n29 ?k8n29 ?k9n29 ?kBn29 ?kDn29 ?_ ?c2n29 ?c3n29 ?c4n29; (case kAn29 | kFn29 => exact rfl); (case kKn29 | k4n29 | kapn29 => assumption); (case k1n29 | k2n29 | k3n29 | k5n29 => k_asm); (case k6n29 | k7n29 => k_is); (case k8n29 => (first | exact room1 (by assumption) rfl | exact room0 (by assumption) | ktr_room)); (case k9n29 => exact BindsTo.of_eq rfl); (case kBn29 => exact rfl); (case kDn29 => decide +kernel); (case c2n29 | c3n29 | c4n29 => exact rfl))); ktr_step
  rename_i o1 e1 NC
  have hD : o1.data = .cell (some (.str nm tn)) := by rw [e1]; kernel_rfl
  clear e1
  (repeat' (first | (k_unfold; (try dsimp only)) | ((fail_if_success (with_reducible first | show wpAny _ _ (PySem.call (Value.ref _) _) _ _ _ | show wpAny _ _ (pyIter (Value.ref _)) _ _ _ | show _ ≤ _ | show wpAny _ _ (eval (Expr.ListComp _ _ _ _) _) _ _ _ | show LCg.CompEnd _ _ _ _ _ _ _ _ _ _ _ _ _ _ | show UnrEnd _ _ _ _ _ _ _ | show UnrPost _ _ _ _ _ _ _ _ _)); (first | walk1 | (dsimp only; walk1)) <;> (try dsimp only)) | (leave1; try dsimp only) | fail "no step"))
  change wpAny _ _ (call (.ref 153) [_, _] [(PySem.Str.ofString "name", .bool true)]) _ _ _
  k_dflt (refine' OkK.use ?k1 ?k2 ?k3 ?k4 ?k5 ?kK (cst hn) ?kP ?kap ?kd ?ku ?_; (case k1 => k_asm); (case k2 => k_asm); (case k3 => k_asm); (case k4 => k_asm); (case k5 => k_asm); (case kK => exact rfl); (case kP => (repeat' first | exact Picks.nil | (with_reducible exact Pick.head) | apply Picks.cons | apply Pick.tail)); (case kap => exact fun _ h => nomatch h); (case kd => (first | exact room1 (by assumption) rfl | exact room0 (by assumption) | ktr_room)); (case ku => (first | exact units1 (by assumption) rfl | ktr_units)))
  intro b9 r9 n9 h9 tk9 U9 F9 N9 hp9
  obtain ⟨rfl, rfl⟩ := hp9
  simp only [List.cons_append, List.nil_append, List.append_nil] at N9
  clear U9
  try dsimp only
  (repeat' (first | (k_unfold; (try dsimp only)) | ((fail_if_success (with_reducible first | show wpAny _ _ (PySem.call (Value.ref _) _) _ _ _ | show wpAny _ _ (pyIter (Value.ref _)) _ _ _ | show _ ≤ _ | show wpAny _ _ (eval (Expr.ListComp _ _ _ _) _) _ _ _ | show LCg.CompEnd _ _ _ _ _ _ _ _ _ _ _ _ _ _ | show UnrEnd _ _ _ _ _ _ _ | show UnrPost _ _ _ _ _ _ _ _ _)); (first | walk1 | (dsimp only; walk1)) <;> (try dsimp only)) | (leave1; try dsimp only) | fail "no step"))
  (rename Fr _ _ _ _ => lF2); (rename News _ _ _ _ => lN2)
  refine' PyProof.Rows.LCt.ListComp_T lF2 ?q1 ?q2 ?q3 ?q4 ?q5 ?q6
  case q1 => exact rfl
  case q2 => decide
  case q3 => exact rfl
  case q4 => decide
  case q5 => exact rfl
  (repeat' (first | (k_unfold; (try dsimp only)) | ((fail_if_success (with_reducible first | show wpAny _ _ (PySem.call (Value.ref _) _) _ _ _ | show wpAny _ _ (pyIter (Value.ref _)) _ _ _ | show _ ≤ _ | show wpAny _ _ (eval (Expr.ListComp _ _ _ _) _) _ _ _ | show LCg.CompEnd _ _ _ _ _ _ _ _ _ _ _ _ _ _ | show UnrEnd _ _ _ _ _ _ _ | show UnrPost _ _ _ _ _ _ _ _ _)); (first | walk1 | (dsimp only; walk1)) <;> (try dsimp only)) | (leave1; try dsimp only) | fail "no step"))
  refine PyProof.Rows.LCt.CompSrcT.ledger (its := (es.map HE.ref).toArray) (k := cp) rfl lF2 lN2 (by k_mem) (Nat.le_trans (by simpa using hvs) (by decide)) (fun g => ?_)
  have hsz : (es.map HE.ref).toArray.size = es.length := by simp
  refine compT_ind (n := (es.map HE.ref).toArray.size) (fun i ys news => ys = allOf (PySem.Txt.lower nm) (es.take i) ∧ news = [(_, _), (x, instObj 252 d), (d, hDict w l t), (l, lstC (es.map HE.ref) cp)]) ?_ ?_ _ _ _ _ (Nat.zero_add _) ⟨rfl, rfl⟩
  · rintro ys news ⟨rfl, rfl⟩
    rw [hsz, List.take_length]
    intro D1 h1 tk1 F1 N1 o1
    (rename Rests _ _ => hR')
    have hne : ∀ q ∈ ([(x, instObj 252 d), (d, hDict w l t), (l, lstC (es.map HE.ref) cp)] ++ es.map HE.obj) ++ rest, @Ne Nat q.1 D1 := fun q hq => by
      rw [List.append_assoc] at hq
      rcases List.mem_append.mp hq with hq | hq
      · obtain ⟨_, z1, z2, z3, _⟩ := o1
        rcases List.mem_cons.mp hq with rfl | hq
        · exact z1
        rcases List.mem_cons.mp hq with rfl | hq
        · exact z2
        rcases List.mem_cons.mp hq with rfl | hq
        · exact z3
        cases hq
      · intro e
        have e' : q.1 = D1 := e
        have z := hR' q hq
        rw [e', (N1 _ (List.mem_cons_self ..)).2.2] at z
        cases z
    (repeat' (first | (k_unfold; (try dsimp only)) | ((fail_if_success (with_reducible first | show wpAny _ _ (PySem.call (Value.ref _) _) _ _ _ | show wpAny _ _ (pyIter (Value.ref _)) _ _ _ | show _ ≤ _ | show wpAny _ _ (eval (Expr.ListComp _ _ _ _) _) _ _ _ | show LCg.CompEnd _ _ _ _ _ _ _ _ _ _ _ _ _ _ | show UnrEnd _ _ _ _ _ _ _ | show UnrPost _ _ _ _ _ _ _ _ _)); (first | walk1 | (dsimp only; walk1)) <;> (try dsimp only)) | (leave1; try dsimp only) | fail "no step"))
    have hR := rests (news := [(x, instObj 252 d), (d, hDict w l t), (l, lstC (es.map HE.ref) cp)]) (nn := [(D1, LCg.lst _), (x, instObj 252 d), (d, hDict w l t), (l, lstC (es.map HE.ref) cp)]) (cb_drop (by assumption) (by k_allIn)) N hR' (by assumption)
    exact hret2 D1 _ _ _ hne (by assumption) (by rw [List.append_assoc]; exact hR)
  · rintro i ys news hi ⟨rfl, rfl⟩ v I oI C oC D m2 h1 tk1 E1 hP hCo hx F1 N1 off1 ne1
    have hi2 : i < es.length := by rw [hsz] at hi; exact hi
    obtain ⟨e, hei⟩ : ∃ e, es[i]? = some e := ⟨es[i], List.getElem?_eq_getElem hi2⟩
    have hve : v = .ref e.a := by
      have h5 : (es.map HE.ref)[i]? = some v := by simpa using hP
      rw [List.getElem?_map, hei] at h5
      exact (Option.some.inj h5).symm
    subst hve
    have hem : e ∈ es := List.mem_of_getElem? hei
    have hT : IsTup h1 e.a #[.str e.nm e.tn, .str e.vl e.tv] := ⟨_, F1.keep _ _ ((by assumption : Rests _ (es.map HE.obj ++ rest)) _ (List.mem_append_left _ (List.mem_map_of_mem hem))), rfl, 0, rfl⟩
    have hl2 := hel e hem
    have hsn := allOf_snoc (k := PySem.Txt.lower nm) hei
    (repeat' (first | (k_unfold; (try dsimp only)) | ((fail_if_success (with_reducible first | show wpAny _ _ (PySem.call (Value.ref _) _) _ _ _ | show wpAny _ _ (pyIter (Value.ref _)) _ _ _ | show _ ≤ _ | show wpAny _ _ (eval (Expr.ListComp _ _ _ _) _) _ _ _ | show LCg.CompEnd _ _ _ _ _ _ _ _ _ _ _ _ _ _ | show UnrEnd _ _ _ _ _ _ _ | show UnrPost _ _ _ _ _ _ _ _ _)); (first | walk1 | (dsimp only; walk1)) <;> (try dsimp only)) | (leave1; try dsimp only) | fail "no step"))
    all_goals first
      | exact LCg.CompEnd.intro (by assumption) (by assumption) _ (by k_allIn) off1 (.inr ⟨_, by k_mem, rfl, _, rfl⟩) ⟨by rw [hsn, if_pos (by assumption)], rfl⟩
      | exact LCg.CompEnd.intro (by assumption) (by assumption) _ (by k_allIn) off1 (.inr ⟨_, by k_mem, rfl, _, rfl⟩) ⟨by rw [hsn, if_neg (by simp [*])], rfl⟩
end
end
theorem offRI : True := by
  w_top off
  exact True.intro
section
open PySem PySem.W PySem.Spec PySem.Calls PyProof.Rows
section
variable {w : World} {p : Program} {loose : List PySem.Str} {mean : ExcName → Option Value} {mg mb : PySem.Str → Option Value}
section
variable {prog : Program} {A : Around} {E : Value → Shared → Prop} {env : Env} {h₀ : Heap} {x : PySem.Str} {body : List Stmt} {Q : Flow → Shared → Prop} {s : Shared} {I : Addr} {a : Int} {n : Nat}
theorem range_ind (Inv : Nat → (PySem.Str → Option Value) → Led → Prop)
    (h0 : ∀ m news, Inv n m news → ∀ h tk, Fr h₀ env.locals h m → News h₀ env.locals h news → Q .next { s with heap := h, toks := tk })
    (h1 : ∀ i m news, i < n → Inv i m news → ∀ t h tk, Fr h₀ env.locals h (fun y => if y = x then some (.int (a + (i : Int)) t) else m y) →
      News h₀ env.locals h ((I, itR (a + ((i + 1 : Nat) : Int)) ((n : Int) - ((i + 1 : Nat) : Int))) :: news) →
      wpAny (model prog w) A (execs body env) (UnrPost h₀ env.locals { s with heap := h, toks := tk } I (itR (a + ((i + 1 : Nat) : Int)) ((n : Int) - ((i + 1 : Nat) : Int))) (Inv (i + 1)) Q) E { s with heap := h, toks := tk }) :
    ∀ k i m news, i + k = n → Inv i m news → RangeRest prog w A E h₀ env x body Q s I a n k i m news
  | 0, i, m, news, e, hi => fun h tk F N => h0 m news (by rw [← e]; exact hi) h tk F N
  | k + 1, i, m, news, e, hi => fun t h tk F N => wpAny_mono (h1 i m news (by (first | lia | omega)) hi t h tk F N) (fun f s' hp => by
      cases f with
      | ret v => exact hp
      | brk => exact hp
      | next => obtain ⟨h', tk', m', n', e1, F', N', off, j⟩ := hp; exact ⟨h', tk', m', n', e1, F', N', off, range_ind Inv h0 h1 k (i + 1) m' n' (by (first | lia | omega)) j⟩
      | cont => obtain ⟨h', tk', m', n', e1, F', N', off, j⟩ := hp; exact ⟨h', tk', m', n', e1, F', N', off, range_ind Inv h0 h1 k (i + 1) m' n' (by (first | lia | omega)) j⟩) fun _ _ e => e
end
end
end
theorem offOP : True := by
  w_top off
  exact True.intro
section
open PySem PySem.W PySem.Spec PySem.Calls PyProof.Rows
section
variable {w : World} {p : Program} {loose : List PySem.Str} {mean : ExcName → Option Value} {mg mb : PySem.Str → Option Value}
set_option maxHeartbeats 4000000 in
theorem cixor {a b : Int} {ta tb : Tok} : Ok w p loose mean mg mb 94 [.int a ta, .int b tb] 10 [] (fun _ => PIntN [] (Builtin.bitXor a b)) := by
  unfold Ok
  k_fill
  intro dp un gd cn cs fa ccd cl outer A₀ base h₀ L m s rest Q E B F X N ap T hk hC hd hu hret
  refine wpAny_call ?_
  (k_dflt (refine' code_defR ?k1n30 ?k2n30 ?k3n30 ?k4n30 ?kapn30 ?k5n30 ?kAn30 ?kFn30 ?kKn30 ?k6n30 ?k7n30 ?k8n30 ?k9n30 ?kBn30 ?_ ?c2n30 ?c3n30 ?c4n30 ?c5n30; (case kAn30 | kFn30 => exact rfl); (case kKn30 | k4n30 | kapn30 => assumption); (case k1n30 | k2n30 | k3n30 | k5n30 => k_asm); (case k6n30 | k7n30 => k_is); (case k8n30 => (first | exact room1 (by assumption) rfl | exact room0 (by assumption) | ktr_room)); (case k9n30 => first | exact BindsTo.of_eq rfl | exact binds_K (by k_in) rfl (by k_is) rfl rfl rfl | (refine' kp_binds ?kxn30 ?ken30; (case kxn30 => k_in); (case ken30 => exact fun _ => rfl))); (case c5n30 => decide); (case kBn30 => exact locs rfl); (case c2n30 | c3n30 | c4n30 => exact rfl))); ktr_enter
  (repeat' (first | (k_unfold; (try dsimp only)) | ((fail_if_success (with_reducible first | show wpAny _ _ (PySem.call (Value.ref _) _) _ _ _ | show wpAny _ _ (pyIter (Value.ref _)) _ _ _ | show _ ≤ _ | show UnrEnd _ _ _ _ _ _ _ | show UnrPost _ _ _ _ _ _ _ _ _)); (first | walk1 | (dsimp only; walk1)) <;> (try dsimp only)) | (leave1; try dsimp only) | fail "no step"))
  have hR := rests (news := []) (nn := []) (by assumption) N (by assumption) (by assumption)
  exact hret _ _ _ _ _ (by assumption) (by assumption) hR ⟨rfl, _, rfl⟩
set_option maxHeartbeats 4000000 in
theorem cimod {a b : Int} {ta tb : Tok} (hb : 0 < b) (ha : Builtin.Int.intBits a ≤ 4000) (hbb : Builtin.Int.intBits b ≤ 4000) : Ok w p loose mean mg mb 73 [.int a ta, .int b tb] 10 [] (fun _ => PIntN [] (a.fmod b)) := by
  unfold Ok
  k_fill
  intro dp un gd cn cs fa ccd cl outer A₀ base h₀ L m s rest Q E B F X N ap T hk hC hd hu hret
  refine wpAny_call ?_
  (k_dflt (refine' code_defR ?k1n31 ?k2n31 ?k3n31 ?k4n31 ?kapn31 ?k5n31 ?kAn31 ?kFn31 ?kKn31 ?k6n31 ?k7n31 ?k8n31 ?k9n31 ?kBn31 ?_ ?c2n31 ?c3n31 ?c4n31 ?c5n31; (case kAn31 | kFn31 => exact rfl); (case kKn31 | k4n31 | kapn31 => assumption); (case k1n31 | k2n31 | k3n31 | k5n31 => k_asm); (case k6n31 | k7n31 => k_is); (case k8n31 => (first | exact room1 (by assumption) rfl | exact room0 (by assumption) | ktr_room)); (case k9n31 => first | exact BindsTo.of_eq rfl | exact binds_K (by k_in) rfl (by k_is) rfl rfl rfl | (refine' kp_binds ?kxn31 ?ken31; (case kxn31 => k_in); (case ken31 => exact fun _ => rfl))); (case c5n31 => decide); (case kBn31 => exact locs rfl); (case c2n31 | c3n31 | c4n31 => exact rfl))); ktr_enter
  (repeat' (first | (k_unfold; (try dsimp only)) | ((fail_if_success (with_reducible first | show wpAny _ _ (PySem.call (Value.ref _) _) _ _ _ | show wpAny _ _ (pyIter (Value.ref _)) _ _ _ | show _ ≤ _ | show UnrEnd _ _ _ _ _ _ _ | show UnrPost _ _ _ _ _ _ _ _ _)); (first | walk1 | (dsimp only; walk1)) <;> (try dsimp only)) | (leave1; try dsimp only) | fail "no step"))
  have hR := rests (news := []) (nn := []) (by assumption) N (by assumption) (by assumption)
  exact hret _ _ _ _ _ (by assumption) (by assumption) hR ⟨rfl, _, rfl⟩
set_option maxHeartbeats 4000000 in
theorem cirsh {a : Int} {n : Nat} {ta tb : Tok} (hn : n ≤ 100000) : Ok w p loose mean mg mb 87 [.int a ta, .int (n : Int) tb] 10 [] (fun _ => PIntN [] (a.fdiv (2 ^ n))) := by
  unfold Ok
  k_fill
  intro dp un gd cn cs fa ccd cl outer A₀ base h₀ L m s rest Q E B F X N ap T hk hC hd hu hret
  refine wpAny_call ?_
  (k_dflt (refine' code_defR ?k1n32 ?k2n32 ?k3n32 ?k4n32 ?kapn32 ?k5n32 ?kAn32 ?kFn32 ?kKn32 ?k6n32 ?k7n32 ?k8n32 ?k9n32 ?kBn32 ?_ ?c2n32 ?c3n32 ?c4n32 ?c5n32; (case kAn32 | kFn32 => exact rfl); (case kKn32 | k4n32 | kapn32 => assumption); (case k1n32 | k2n32 | k3n32 | k5n32 => k_asm); (case k6n32 | k7n32 => k_is); (case k8n32 => (first | exact room1 (by assumption) rfl | exact room0 (by assumption) | ktr_room)); (case k9n32 => first | exact BindsTo.of_eq rfl | exact binds_K (by k_in) rfl (by k_is) rfl rfl rfl | (refine' kp_binds ?kxn32 ?ken32; (case kxn32 => k_in); (case ken32 => exact fun _ => rfl))); (case c5n32 => decide); (case kBn32 => exact locs rfl); (case c2n32 | c3n32 | c4n32 => exact rfl))); ktr_enter
  (repeat' (first | (k_unfold; (try dsimp only)) | ((fail_if_success (with_reducible first | show wpAny _ _ (PySem.call (Value.ref _) _) _ _ _ | show wpAny _ _ (pyIter (Value.ref _)) _ _ _ | show _ ≤ _ | show UnrEnd _ _ _ _ _ _ _ | show UnrPost _ _ _ _ _ _ _ _ _)); (first | walk1 | (dsimp only; walk1)) <;> (try dsimp only)) | (leave1; try dsimp only) | fail "no step"))
  simp only [Int.toNat_natCast]
  have hR := rests (news := []) (nn := []) (by assumption) N (by assumption) (by assumption)
  exact hret _ _ _ _ _ (by assumption) (by assumption) hR ⟨rfl, _, rfl⟩
set_option maxHeartbeats 4000000 in
theorem cimul {a b : Int} {ta tb : Tok} (ha : Builtin.Int.intBits a ≤ 4000) (hbb : Builtin.Int.intBits b ≤ 4000) : Ok w p loose mean mg mb 80 [.int a ta, .int b tb] 10 [] (fun _ => PIntN [] (a * b)) := by
  unfold Ok
  k_fill
  intro dp un gd cn cs fa ccd cl outer A₀ base h₀ L m s rest Q E B F X N ap T hk hC hd hu hret
  refine wpAny_call ?_
  (k_dflt (refine' code_defR ?k1n33 ?k2n33 ?k3n33 ?k4n33 ?kapn33 ?k5n33 ?kAn33 ?kFn33 ?kKn33 ?k6n33 ?k7n33 ?k8n33 ?k9n33 ?kBn33 ?_ ?c2n33 ?c3n33 ?c4n33 ?c5n33; (case kAn33 | kFn33 => exact rfl); (case kKn33 | k4n33 | kapn33 => assumption); (case k1n33 | k2n33 | k3n33 | k5n33 => k_asm); (case k6n33 | k7n33 => k_is); (case k8n33 => (first | exact room1 (by assumption) rfl | exact room0 (by assumption) | ktr_room)); (case k9n33 => first | exact BindsTo.of_eq rfl | exact binds_K (by k_in) rfl (by k_is) rfl rfl rfl | (refine' kp_binds ?kxn33 ?ken33; (case kxn33 => k_in); (case ken33 => exact fun _ => rfl))); (case c5n33 => decide); (case kBn33 => exact locs rfl); (case c2n33 | c3n33 | c4n33 => exact rfl))); ktr_enter
  (repeat' (first | (k_unfold; (try dsimp only)) | ((fail_if_success (with_reducible first | show wpAny _ _ (PySem.call (Value.ref _) _) _ _ _ | show wpAny _ _ (pyIter (Value.ref _)) _ _ _ | show _ ≤ _ | show UnrEnd _ _ _ _ _ _ _ | show UnrPost _ _ _ _ _ _ _ _ _)); (first | walk1 | (dsimp only; walk1)) <;> (try dsimp only)) | (leave1; try dsimp only) | fail "no step"))
  refine imul_int ?_ (IntMulOk.of_le (m := 4000) (n := 4000) ha hbb (by decide))
  (repeat' (first | (k_unfold; (try dsimp only)) | ((fail_if_success (with_reducible first | show wpAny _ _ (PySem.call (Value.ref _) _) _ _ _ | show wpAny _ _ (pyIter (Value.ref _)) _ _ _ | show _ ≤ _ | show UnrEnd _ _ _ _ _ _ _ | show UnrPost _ _ _ _ _ _ _ _ _)); (first | walk1 | (dsimp only; walk1)) <;> (try dsimp only)) | (leave1; try dsimp only) | fail "no step"))
  have hR := rests (news := []) (nn := []) (by assumption) N (by assumption) (by assumption)
  exact hret _ _ _ _ _ (by assumption) (by assumption) hR ⟨rfl, _, rfl⟩
end
section
variable {prog : Program} {A : Around} {E : Value → Shared → Prop} {s : Shared} {h₀ : Heap} {L : Addr} {m : PySem.Str → Option Value} {news : Led}
theorem newDict_L {env : Env} {pos : Pos} {Q : Value → Shared → Prop} (F : Fr h₀ L s.heap m) (N : News h₀ L s.heap news) (hbig : h₀.NoLimit)
    (k : ∀ d h' o, Fr h₀ L h' m → News h₀ L h' ((d, o) :: news) → (∀ p ∈ news, p.1 < d) → @LT.lt Nat _ L d → o.IsDictOf (PySem.strKind prog w) [] → Q (.ref d) { s with heap := h' }) : wpAny (model prog w) A (eval (.Dict [] [] pos) env) Q E s :=
  Dict_empty_made2 F N (modules_low hbig) fun h' o F' N' lo a b c e _ => k _ h' o F' N' (fun p hp => Heap.lt_size (N p hp).1) F.ns.lt a
end
end
section
open PySem PySem.W PySem.Spec PySem.Calls PyProof.Rows
local macro_rules | `(tactic| k_lt $h:ident) => `(tactic| (refine allImp_of $h ?_; (try dsimp only [AllImp]); (repeat ((with_reducible show (@LT.lt Nat _ _ _ → _)); intro $h:ident)); (try ((with_reducible refine allImp_tl ?_); intro $h:ident))))
local macro_rules | `(tactic| walk_at "eval Dict nil nil") => `(tactic| (k_here; k_dflt (refine newDict_L (by k_asm) (by k_asm) (TopRead.nolimit (by k_asm)) ?_; k_whole); intro _ _ _ _ _ l1 _ _; (try k_lt l1); (try k_sweep)))
theorem offAC : True := by
  w_top off
  exact True.intro
section
open PySem PySem.W PySem.Spec PySem.Calls PyProof.Rows
section
variable {w : World} {p : Program} {loose : List PySem.Str} {mean : ExcName → Option Value} {mg mb : PySem.Str → Option Value}
inductive DInts : List (PySem.Str × Value) → List (PySem.Str × Int) → Prop
  | nil : DInts [] []
  | cons (k : PySem.Str) (n : Int) (t : Tok) {kv e} : DInts kv e → DInts ((k, .int n t) :: kv) ((k, n) :: e)
noncomputable def lookI (e : List (PySem.Str × Int)) (k : PySem.Str) : Option Int := (e.find? fun p => p.1 = k).map (·.2)
noncomputable def putI (e : List (PySem.Str × Int)) (k : PySem.Str) (v : Int) : List (PySem.Str × Int) := if e.any (fun p => p.1 = k) then e.map (fun p => if p.1 = k then (p.1, v) else p) else e ++ [(k, v)]
noncomputable def addI (e : List (PySem.Str × Int)) (q : PySem.Str × Int) : List (PySem.Str × Int) := putI e q.1 ((lookI e q.1).getD 0 + q.2)
theorem DInts.length {kv e} (h : DInts kv e) : kv.length = e.length := by
  induction h with
  | nil => rfl
  | cons _ _ _ _ ih => simp [ih]
theorem DInts.look {kv e} (h : DInts kv e) (k : PySem.Str) : (lookI e k = none → valueAt kv k = none) ∧ (∀ n, lookI e k = some n → ∃ t, valueAt kv k = some (.int n t)) := by
  induction h with
  | nil => exact ⟨fun _ => rfl, fun n h => by cases h⟩
  | cons k' n' t' _ ih =>
    unfold lookI valueAt at *
    simp only [List.find?_cons]
    by_cases hk : k' = k
    · simp [hk]
    · simp only [hk, decide_false]; exact ih
theorem DInts.any {kv e} (h : DInts kv e) (k : PySem.Str) : kv.any (fun p => p.1 = k) = e.any (fun p => p.1 = k) := by
  induction h with
  | nil => rfl
  | cons k' n' t' _ ih => simp [ih]
theorem DInts.put {kv e} (h : DInts kv e) (k : PySem.Str) (n : Int) (t : Tok) : DInts (stored kv k (.int n t)) (putI e k n) := by
  unfold stored putI
  rw [h.any]
  split
  · rename_i hh; clear hh
    induction h with
    | nil => exact .nil
    | cons k' n' t' _ ih =>
      simp only [List.map_cons]
      by_cases hk : k' = k
      · simp only [hk, if_true]; exact .cons _ _ _ ih
      · simp only [hk, if_false]; exact .cons _ _ _ ih
  · rename_i hh; clear hh
    induction h with
    | nil => exact .cons _ _ _ .nil
    | cons k' n' t' _ ih => exact .cons _ _ _ ih
theorem foldl_addI_len : ∀ (l e : List (PySem.Str × Int)), (l.foldl addI e).length ≤ e.length + l.length
  | [], e => by simp
  | q :: l, e => by
    have := foldl_addI_len l (addI e q)
    have h2 : (addI e q).length ≤ e.length + 1 := by unfold addI putI; split <;> simp
    rw [List.foldl_cons, List.length_cons]; (first | lia | omega)
section
variable {prog : Program} {A : Around} {E : Value → Shared → Prop} {env : Env} {h₀ : Heap} {target : Expr} {body : List Stmt} {Q : Flow → Shared → Prop} {s : Shared} {I : Addr} {c : String} {keep : Led}
theorem itms_ind {α : Type} (f : α → Itm) (Inv : List α → (PySem.Str → Option Value) → Led → Prop)
    (h0 : ∀ m news, Inv [] m news → ∀ h tk, Fr h₀ env.locals h m → News h₀ env.locals h news → Q .next { s with heap := h, toks := tk })
    (h1 : ∀ a r m news, Inv (a :: r) m news → ∀ v (it : Obj) h tk, (f a).Is v h → it.cls = .type c → Fr h₀ env.locals h m → News h₀ env.locals h ((I, it) :: news) →
      wpAny (model prog w) A (assign target env v) (fun _ s₂ => wpAny (model prog w) A (execs body env) (UnrPostW h₀ env.locals { s with heap := h, toks := tk } [(I, it)] (fun m' n' => SubL keep n' ∧ Inv r m' n') Q) E s₂) E { s with heap := h, toks := tk }) :
    ∀ (l : List α) m news, Inv l m news → ItemsRest prog w A E h₀ env target body Q s [(I, c)] keep (l.map f) m news
  | [], m, news, hi => fun h tk F N => h0 m news hi h tk F N
  | a :: r, m, news, hi => fun v h tk e F it hc N => by
    refine wpAny_mono (h1 a r m news hi v it h tk e hc F N) (fun _ s₂ h2 => wpAny_mono h2 (fun fl s' hp => ?_) fun _ _ e => e) fun _ _ e => e
    cases fl with
    | ret v => exact hp
    | brk => exact hp
    | next => obtain ⟨h', tk', m', n', e, F', N', off, l, i⟩ := hp; exact ⟨h', tk', m', n', e, F', N', off, l, itms_ind f Inv h0 h1 r m' n' i⟩
    | cont => obtain ⟨h', tk', m', n', e, F', N', off, l, i⟩ := hp; exact ⟨h', tk', m', n', e, F', N', off, l, itms_ind f Inv h0 h1 r m' n' i⟩
end
theorem notMod {a : Addr} (h : @LT.lt Nat _ 1 a) : (a == sysModules) = false := beq_eq_false_iff_ne.mpr (Nat.ne_of_gt h)
inductive PAC (w : World) (es et : List (PySem.Str × Int)) (dt ds : Addr) (ot os : Obj) (bd : Nat) (n' : Led) (r : Value) : Prop
  | mk (dn : Addr) (on : Obj) (kn : List (PySem.Str × Value)) (h : @LT.lt Nat _ bd dn) (hd : on.IsDictOf (PySem.strKind PySem.Challenge.rw_wy0040_01.row.toRowW.prog w) kn) (hk : DInts kn (es.foldl addI et)) (e : n' = [(dn, on), (dt, ot), (ds, os)]) (e2 : r = .ref dn)
inductive AcJ (w : World) (kt : List (PySem.Str × Value)) (dt ds dn : Addr) (ot os : Obj) (r : List (PySem.Str × Value)) (m' : PySem.Str → Option Value) (n' : Led) : Prop
  | mk (pre : List (PySem.Str × Value)) (on : Obj) (hk : kt = pre ++ r) (hd : on.IsDictOf (PySem.strKind PySem.Challenge.rw_wy0040_01.row.toRowW.prog w) pre) (a1 : m' "target" = some (.ref dt)) (a2 : m' "source" = some (.ref ds)) (a3 : m' "new_callers" = some (.ref dn)) (e : n' = [(dn, on), (dt, ot), (ds, os)])
inductive AcK (w : World) (es et : List (PySem.Str × Int)) (dt ds dn : Addr) (ot os : Obj) (r : List (PySem.Str × Value)) (m' : PySem.Str → Option Value) (n' : Led) : Prop
  | mk (pr er : List (PySem.Str × Int)) (on : Obj) (kn : List (PySem.Str × Value)) (hk : es = pr ++ er) (hr : DInts r er) (hd : on.IsDictOf (PySem.strKind PySem.Challenge.rw_wy0040_01.row.toRowW.prog w) kn) (hn : DInts kn (pr.foldl addI et)) (a1 : m' "target" = some (.ref dt)) (a2 : m' "source" = some (.ref ds)) (a3 : m' "new_callers" = some (.ref dn)) (e : n' = [(dn, on), (dt, ot), (ds, os)])
set_option maxHeartbeats 4000000 in
theorem caddc {dt ds : Addr} {ot os : Obj} {kt ks : List (PySem.Str × Value)} {et es : List (PySem.Str × Int)} (ht : ot.IsDictOf (PySem.strKind PySem.Challenge.rw_wy0040_01.row.toRowW.prog w) kt) (hs : os.IsDictOf (PySem.strKind PySem.Challenge.rw_wy0040_01.row.toRowW.prog w) ks)
    (it : DInts kt et) (is : DInts ks es) (d1 : @LT.lt Nat _ 1 dt) (d2 : @LT.lt Nat _ 1 ds) (d3 : @Ne Nat dt ds) (hl1 : et.length ≤ 100) (hl2 : es.length ≤ 100) :
    Ok w p loose mean mg mb 101 [.ref dt, .ref ds] 20 [(dt, ot), (ds, os)]
      (PAC w es et dt ds ot os) := by
  have lo1 := notMod d1
  have lo2 := notMod d2
  unfold Ok
  k_fill
  intro dp un gd cn cs fa ccd cl outer A₀ base h₀ L m s rest Q E B F X N ap T hk hC hd hu hret
  refine wpAny_call ?_
  (k_dflt (refine' code_defR ?k1n34 ?k2n34 ?k3n34 ?k4n34 ?kapn34 ?k5n34 ?kAn34 ?kFn34 ?kKn34 ?k6n34 ?k7n34 ?k8n34 ?k9n34 ?kBn34 ?_ ?c2n34 ?c3n34 ?c4n34 ?c5n34; (case kAn34 | kFn34 => exact rfl); (case kKn34 | k4n34 | kapn34 => assumption); (case k1n34 | k2n34 | k3n34 | k5n34 => k_asm); (case k6n34 | k7n34 => k_is); (case k8n34 => (first | exact room1 (by assumption) rfl | exact room0 (by assumption) | ktr_room)); (case k9n34 => first | exact BindsTo.of_eq rfl | exact binds_K (by k_in) rfl (by k_is) rfl rfl rfl | (refine' kp_binds ?kxn34 ?ken34; (case kxn34 => k_in); (case ken34 => exact fun _ => rfl))); (case c5n34 => decide); (case kBn34 => exact locs rfl); (case c2n34 | c3n34 | c4n34 => exact rfl))); ktr_enter
  (repeat' (first | (k_unfold; (try dsimp only)) | ((fail_if_success (with_reducible first | show wpAny _ _ (PySem.call (Value.ref _) _) _ _ _ | show wpAny _ _ (pyIter (Value.ref _)) _ _ _ | show _ ≤ _ | show UnrEnd _ _ _ _ _ _ _ | show UnrPost _ _ _ _ _ _ _ _ _ | show UnrEndW _ _ _ _ _ _)); (first | walk1 | (dsimp only; walk1)) <;> (try dsimp only)) | (leave1; try dsimp only) | fail "no step"))
  rename_i dn hd0 o0 lraw lt0 hs0 hlt0 hlt1 hh0 lF' lN'
  with_unfolding_all refine' For_turns lF' ?_
  k_whole
  refine MethodCall_ ?_
  refine ld lF' (by rfl) ?_
  with_unfolding_all refine kdl_method (knd := PySem.strKind _ _) PySem.F.slot_dict_items PySem.F.type_dict_items lN' (by k_mem) ht ?_
  refine callWith_method0 ?_
  refine kta_callItems (knd := PySem.strKind _ _) lF' lN' (by k_mem) ht lo1 ?_
  intro h1 hv1 F1 N1
  with_unfolding_all refine kta_items (knd := PySem.strKind _ _) (enc := PyData.str) (by rfl) F1 N1 hv1 (by k_mem) ht (fun _ _ h => Value.isStrOf_shape h) (by rfl) ?_
  clear lF' lN' F1 N1 hv1
  intro i1 l1
  k_lt l1
  refine itms_ind (fun p => Itm.pair (kyVal (PyData.str p.1)) p.2) (AcJ w kt dt ds dn ot os) ?h0 ?h1 _ _ _ ?hi
  case hi => exact ⟨[], o0, rfl, hs0, rfl, rfl, rfl, rfl⟩
  case h0 =>
    rintro m1 n1 ⟨pre, on, hkt, hon, e1, e2, e3, rfl⟩ h1 tk1 F1 N1
    replace F1 := see3 F1 e1 e2 e3
    rw [List.append_nil] at hkt
    subst hkt
    (repeat' (first | (k_unfold; (try dsimp only)) | ((fail_if_success (with_reducible first | show wpAny _ _ (PySem.call (Value.ref _) _) _ _ _ | show wpAny _ _ (pyIter (Value.ref _)) _ _ _ | show _ ≤ _ | show UnrEnd _ _ _ _ _ _ _ | show UnrPost _ _ _ _ _ _ _ _ _ | show UnrEndW _ _ _ _ _ _)); (first | walk1 | (dsimp only; walk1)) <;> (try dsimp only)) | (leave1; try dsimp only) | fail "no step"))
    (rename Fr _ _ _ _ => lF')
    (rename News _ _ _ _ => lN')
    with_unfolding_all refine' For_turns lF' ?_
    k_whole
    refine MethodCall_ ?_
    refine ld lF' (by rfl) ?_
    with_unfolding_all refine kdl_method (knd := PySem.strKind _ _) PySem.F.slot_dict_items PySem.F.type_dict_items lN' (by k_mem) hs ?_
    refine callWith_method0 ?_
    refine kta_callItems (knd := PySem.strKind _ _) lF' lN' (by k_mem) hs lo2 ?_
    intro h1 hv1 F1 N1
    with_unfolding_all refine kta_items (knd := PySem.strKind _ _) (enc := PyData.str) (by rfl) F1 N1 hv1 (by k_mem) hs (fun _ _ h => Value.isStrOf_shape h) (by rfl) ?_
    clear lF' lN' F1 N1 hv1
    intro i1 l1
    k_lt l1
    refine itms_ind (fun p => Itm.pair (kyVal (PyData.str p.1)) p.2) (AcK w es et dt ds dn ot os) ?j0 ?j1 _ _ _ ?ji
    case ji => exact ⟨[], es, on, kt, rfl, is, hon, it, rfl, rfl, rfl, rfl⟩
    case j0 =>
      rintro m1 n1 ⟨pr, er, on, kn, hes, hr, hon, hkn, e1, e2, e3, rfl⟩ h1 tk1 F1 N1
      replace F1 := see3 F1 e1 e2 e3
      cases hr
      rw [List.append_nil] at hes
      subst hes
      (repeat' (first | (k_unfold; (try dsimp only)) | ((fail_if_success (with_reducible first | show wpAny _ _ (PySem.call (Value.ref _) _) _ _ _ | show wpAny _ _ (pyIter (Value.ref _)) _ _ _ | show _ ≤ _ | show UnrEnd _ _ _ _ _ _ _ | show UnrPost _ _ _ _ _ _ _ _ _ | show UnrEndW _ _ _ _ _ _)); (first | walk1 | (dsimp only; walk1)) <;> (try dsimp only)) | (leave1; try dsimp only) | fail "no step"))
      have hR : News h₀ L _ ([(dn, on), (dt, ot), (ds, os)] ++ rest) := rests (news := [(dt, ot), (ds, os)]) (by assumption) N (by assumption) (by assumption)
      exact hret _ _ _ _ _ (by assumption) (by assumption) hR ⟨dn, on, kn, lt0, hon, hkn, rfl, rfl⟩
    case j1 =>
      rintro ⟨k, x⟩ r m1 n1 ⟨pr, er0, on, kn, hes, hr, hon, hkn, e1, e2, e3, rfl⟩ v1 it1 h1 tk1 ⟨T1, t1, rfl, hT⟩ hcl F1 N1
      cases hr with
      | cons _ n tx hr =>
      rename_i er
      replace F1 := see3 F1 e1 e2 e3
      replace hT : IsTup h1 T1 #[.str k t1, .int n tx] := hT
      have lo3 := notMod (Nat.lt_trans d1 hlt0)
      (repeat' (first | (k_unfold; (try dsimp only)) | ((fail_if_success (with_reducible first | show wpAny _ _ (PySem.call (Value.ref _) _) _ _ _ | show wpAny _ _ (pyIter (Value.ref _)) _ _ _ | show _ ≤ _ | show UnrEnd _ _ _ _ _ _ _ | show UnrPost _ _ _ _ _ _ _ _ _ | show UnrEndW _ _ _ _ _ _)); (first | walk1 | (dsimp only; walk1)) <;> (try dsimp only)) | (leave1; try dsimp only) | fail "no step"))
      (rename Fr _ _ _ _ => lF')
      (rename News _ _ _ _ => lN')
      obtain ⟨lk1, lk2⟩ := hkn.look k
      cases hlk : lookI (pr.foldl addI et) k with
      | none =>
        have hv := lk1 hlk
        refine kda_in lN' (by k_mem) hon lo3 (strKind_is _ _ _ _) false (by rw [hv]; rfl) ?_
        (repeat' (first | (k_unfold; (try dsimp only)) | ((fail_if_success (with_reducible first | show wpAny _ _ (PySem.call (Value.ref _) _) _ _ _ | show wpAny _ _ (pyIter (Value.ref _)) _ _ _ | show _ ≤ _ | show UnrEnd _ _ _ _ _ _ _ | show UnrPost _ _ _ _ _ _ _ _ _ | show UnrEndW _ _ _ _ _ _)); (first | walk1 | (dsimp only; walk1)) <;> (try dsimp only)) | (leave1; try dsimp only) | fail "no step"))
        have hlen := hkn.length
        have hle := foldl_addI_len pr et
        have hpl : pr.length ≤ 100 := by have := congrArg List.length hes; rw [List.length_append] at this; (first | lia | omega)
        (rename Fr _ _ _ _ => lF5)
        (rename News _ _ _ _ => lN5)
        refine kda_set (knd := PySem.strKind _ _) lF5 lN5 (by k_updF) hon (strKind_is _ _ _ _) (Nat.le_trans (show kn.length ≤ 1000 by (first | lia | omega)) (by decide)) ?_
        intro h6 o6 F6 N6 hd6
        (repeat' (first | (k_unfold; (try dsimp only)) | ((fail_if_success (with_reducible first | show wpAny _ _ (PySem.call (Value.ref _) _) _ _ _ | show wpAny _ _ (pyIter (Value.ref _)) _ _ _ | show _ ≤ _ | show UnrEnd _ _ _ _ _ _ _ | show UnrPost _ _ _ _ _ _ _ _ _ | show UnrEndW _ _ _ _ _ _)); (first | walk1 | (dsimp only; walk1)) <;> (try dsimp only)) | (leave1; try dsimp only) | fail "no step"))
        refine UnrEndW.intro F6 N6 [(dn, o6), (dt, ot), (ds, os)] (by k_subL) (by k_subL) (by ktu_offL) ⟨by k_subL, pr ++ [(k, n)], er, o6, stored kn k (.int n tx), by rw [hes]; simp, hr, hd6, ?_, rfl, rfl, rfl, rfl⟩
        rw [List.foldl_append]
        show DInts _ (putI _ k ((lookI _ k).getD 0 + n))
        rw [hlk]
        show DInts _ (putI _ k (0 + n))
        rw [Int.zero_add]
        exact hkn.put _ _ _
      | some n0 =>
        obtain ⟨t0, hv⟩ := lk2 _ hlk
        refine kda_in lN' (by k_mem) hon lo3 (strKind_is _ _ _ _) true (by rw [hv]; rfl) ?_
        (repeat' (first | (k_unfold; (try dsimp only)) | ((fail_if_success (with_reducible first | show wpAny _ _ (PySem.call (Value.ref _) _) _ _ _ | show wpAny _ _ (pyIter (Value.ref _)) _ _ _ | show _ ≤ _ | show UnrEnd _ _ _ _ _ _ _ | show UnrPost _ _ _ _ _ _ _ _ _ | show UnrEndW _ _ _ _ _ _)); (first | walk1 | (dsimp only; walk1)) <;> (try dsimp only)) | (leave1; try dsimp only) | fail "no step"))
        have hlen := hkn.length
        have hle := foldl_addI_len pr et
        have hpl : pr.length ≤ 100 := by have := congrArg List.length hes; rw [List.length_append] at this; (first | lia | omega)
        (rename Fr _ _ _ _ => lF5)
        (rename News _ _ _ _ => lN5)
        refine kdt_getItem (knd := PySem.strKind _ _) lN5 (by k_mem) hon (strKind_is _ _ _ _) hv ?_
        (repeat' (first | (k_unfold; (try dsimp only)) | ((fail_if_success (with_reducible first | show wpAny _ _ (PySem.call (Value.ref _) _) _ _ _ | show wpAny _ _ (pyIter (Value.ref _)) _ _ _ | show _ ≤ _ | show UnrEnd _ _ _ _ _ _ _ | show UnrPost _ _ _ _ _ _ _ _ _ | show UnrEndW _ _ _ _ _ _)); (first | walk1 | (dsimp only; walk1)) <;> (try dsimp only)) | (leave1; try dsimp only) | fail "no step"))
        (rename Fr _ _ _ _ => lF6)
        (rename News _ _ _ _ => lN6)
        refine kda_set (knd := PySem.strKind _ _) lF6 lN6 (by k_updF) hon (strKind_is _ _ _ _) (Nat.le_trans (show kn.length ≤ 1000 by (first | lia | omega)) (by decide)) ?_
        intro h6 o6 F6 N6 hd6
        (repeat' (first | (k_unfold; (try dsimp only)) | ((fail_if_success (with_reducible first | show wpAny _ _ (PySem.call (Value.ref _) _) _ _ _ | show wpAny _ _ (pyIter (Value.ref _)) _ _ _ | show _ ≤ _ | show UnrEnd _ _ _ _ _ _ _ | show UnrPost _ _ _ _ _ _ _ _ _ | show UnrEndW _ _ _ _ _ _)); (first | walk1 | (dsimp only; walk1)) <;> (try dsimp only)) | (leave1; try dsimp only) | fail "no step"))
        refine UnrEndW.intro F6 N6 [(dn, o6), (dt, ot), (ds, os)] (by k_subL) (by k_subL) (by ktu_offL) ⟨by k_subL, pr ++ [(k, n)], er, o6, stored kn k (.int (n0 + n) _), by rw [hes]; simp, hr, hd6, ?_, rfl, rfl, rfl, rfl⟩
        rw [List.foldl_append]
        show DInts _ (putI _ k ((lookI _ k).getD 0 + n))
        rw [hlk]
        exact hkn.put _ _ _
  case h1 =>
    rintro ⟨k, x⟩ r m1 n1 ⟨pre, on, hkt, hon, e1, e2, e3, rfl⟩ v1 it1 h1 tk1 ⟨T1, t1, rfl, hT⟩ hcl F1 N1
    replace F1 := see3 F1 e1 e2 e3
    replace hT : IsTup h1 T1 #[.str k t1, x] := hT
    have hab : valueAt pre k = none := by
      obtain ⟨_, _, _, _, _, _, hnd⟩ := ht
      rw [hkt, List.map_append, List.nodup_append] at hnd
      exact valueAt_none_of_not_mem fun hm => hnd.2.2 _ hm _ (List.mem_cons_self ..) rfl
    have hlen : pre.length ≤ 100 := by
      have := it.length
      rw [hkt, List.length_append, List.length_cons] at this
      (first | lia | omega)
    (repeat' (first | (k_unfold; (try dsimp only)) | ((fail_if_success (with_reducible first | show wpAny _ _ (PySem.call (Value.ref _) _) _ _ _ | show wpAny _ _ (pyIter (Value.ref _)) _ _ _ | show _ ≤ _ | show UnrEnd _ _ _ _ _ _ _ | show UnrPost _ _ _ _ _ _ _ _ _ | show UnrEndW _ _ _ _ _ _)); (first | walk1 | (dsimp only; walk1)) <;> (try dsimp only)) | (leave1; try dsimp only) | fail "no step"))
    (rename Fr _ _ _ _ => lF')
    (rename News _ _ _ _ => lN')
    refine kda_set (knd := PySem.strKind _ _) lF' lN' (by k_updF) hon (strKind_is _ _ _ _) (Nat.le_trans hlen (by decide)) ?_
    clear lF' lN'
    intro h5 o5 F5 N5 hd5
    rw [stored_absent hab] at hd5
    (repeat' (first | (k_unfold; (try dsimp only)) | ((fail_if_success (with_reducible first | show wpAny _ _ (PySem.call (Value.ref _) _) _ _ _ | show wpAny _ _ (pyIter (Value.ref _)) _ _ _ | show _ ≤ _ | show UnrEnd _ _ _ _ _ _ _ | show UnrPost _ _ _ _ _ _ _ _ _ | show UnrEndW _ _ _ _ _ _)); (first | walk1 | (dsimp only; walk1)) <;> (try dsimp only)) | (leave1; try dsimp only) | fail "no step"))
    refine UnrEndW.intro F5 N5 [(dn, o5), (dt, ot), (ds, os)] (by k_subL) (by k_subL) (by ktu_offL) ⟨by k_subL, pre ++ [(k, x)], o5, by rw [hkt]; simp, hd5, rfl, rfl, rfl, rfl⟩
end
end
theorem offCC : True := by
  w_top off
  exact True.intro
section
open PySem PySem.W PySem.Spec PySem.Calls PyProof.Rows
section
variable {w : World} {p : Program} {loose : List PySem.Str} {mean : ExcName → Option Value} {mg mb : PySem.Str → Option Value}
noncomputable def sumI (e : List (PySem.Str × Int)) : Int := (e.map (·.2)).sum
inductive CcJ (et : List (PySem.Str × Int)) (dt : Addr) (ot : Obj) (r : List (PySem.Str × Value)) (m' : PySem.Str → Option Value) (n' : Led) : Prop
  | mk (pr er : List (PySem.Str × Int)) (t : Tok) (h : et = pr ++ er) (hr : DInts r er) (a1 : m' "callers" = some (.ref dt)) (a2 : m' "nc" = some (.int (sumI pr) t)) (e : n' = [(dt, ot)])
set_option maxHeartbeats 4000000 in
theorem ccount {dt : Addr} {ot : Obj} {kt : List (PySem.Str × Value)} {et : List (PySem.Str × Int)} (ht : ot.IsDictOf (PySem.strKind PySem.Challenge.rw_wy0040_01.row.toRowW.prog w) kt)
    (it : DInts kt et) (d1 : @LT.lt Nat _ 1 dt) :
    Ok w p loose mean mg mb 108 [.ref dt] 20 [(dt, ot)]
      (fun _ => PIntT [(dt, ot)] (sumI et)) := by
  have lo1 := notMod d1
  unfold Ok
  k_fill
  intro dp un gd cn cs fa ccd cl outer A₀ base h₀ L m s rest Q E B F X N ap T hk hC hd hu hret
  refine wpAny_call ?_
  (k_dflt (refine' code_defR ?k1n35 ?k2n35 ?k3n35 ?k4n35 ?kapn35 ?k5n35 ?kAn35 ?kFn35 ?kKn35 ?k6n35 ?k7n35 ?k8n35 ?k9n35 ?kBn35 ?_ ?c2n35 ?c3n35 ?c4n35 ?c5n35; (case kAn35 | kFn35 => exact rfl); (case kKn35 | k4n35 | kapn35 => assumption); (case k1n35 | k2n35 | k3n35 | k5n35 => k_asm); (case k6n35 | k7n35 => k_is); (case k8n35 => (first | exact room1 (by assumption) rfl | exact room0 (by assumption) | ktr_room)); (case k9n35 => first | exact BindsTo.of_eq rfl | exact binds_K (by k_in) rfl (by k_is) rfl rfl rfl | (refine' kp_binds ?kxn35 ?ken35; (case kxn35 => k_in); (case ken35 => exact fun _ => rfl))); (case c5n35 => decide); (case kBn35 => exact locs rfl); (case c2n35 | c3n35 | c4n35 => exact rfl))); ktr_enter
  (repeat' (first | (k_unfold; (try dsimp only)) | ((fail_if_success (with_reducible first | show wpAny _ _ (PySem.call (Value.ref _) _) _ _ _ | show wpAny _ _ (pyIter (Value.ref _)) _ _ _ | show _ ≤ _ | show UnrEnd _ _ _ _ _ _ _ | show UnrPost _ _ _ _ _ _ _ _ _ | show UnrEndW _ _ _ _ _ _ | show wpAny _ _ (exec (Stmt.For _ _ _ _ _) _) _ _ _)); (first | walk1 | (dsimp only; walk1)) <;> (try dsimp only)) | (leave1; try dsimp only) | fail "no step"))
  (rename Fr _ _ _ _ => lF')
  (rename News _ _ _ _ => lN')
  with_unfolding_all refine' For_turns lF' ?_
  k_whole
  refine MethodCall_ ?_
  refine ld lF' (by rfl) ?_
  with_unfolding_all refine kdl_method (knd := PySem.strKind _ _) PySem.F.slot_dict_values PySem.F.type_dict_values lN' (by k_mem) ht ?_
  refine callWith_method0 ?_
  refine kta_callValues (knd := PySem.strKind _ _) lF' lN' (by k_mem) ht lo1 ?_
  intro h1 hv1 F1 N1
  with_unfolding_all refine kta_vals (knd := PySem.strKind _ _) (by rfl) F1 N1 hv1 (by k_mem) ht (by rfl) ?_
  clear lF' lN' F1 N1 hv1
  intro i1 l1
  k_lt l1
  refine itms_ind (fun p => Itm.val p.2) (CcJ et dt ot) ?h0 ?h1 _ _ _ ?hi
  case hi => exact ⟨[], et, _, rfl, it, rfl, rfl, rfl⟩
  case h0 =>
    rintro m1 n1 ⟨pr, er, t, hes, hr, e1, e2, rfl⟩ h1 tk1 F1 N1
    replace F1 := see2 F1 e1 e2
    cases hr
    rw [List.append_nil] at hes
    subst hes
    (repeat' (first | (k_unfold; (try dsimp only)) | ((fail_if_success (with_reducible first | show wpAny _ _ (PySem.call (Value.ref _) _) _ _ _ | show wpAny _ _ (pyIter (Value.ref _)) _ _ _ | show _ ≤ _ | show UnrEnd _ _ _ _ _ _ _ | show UnrPost _ _ _ _ _ _ _ _ _ | show UnrEndW _ _ _ _ _ _ | show wpAny _ _ (exec (Stmt.For _ _ _ _ _) _) _ _ _)); (first | walk1 | (dsimp only; walk1)) <;> (try dsimp only)) | (leave1; try dsimp only) | fail "no step"))
    have hR : News h₀ L _ ([(dt, ot)] ++ rest) := rests (news := [(dt, ot)]) (by assumption) N (by assumption) (by assumption)
    exact hret _ _ _ _ _ (by assumption) (by assumption) hR ⟨t, rfl, rfl⟩
  case h1 =>
    rintro ⟨k, x⟩ r m1 n1 ⟨pr, er0, t, hes, hr, e1, e2, rfl⟩ v1 it1 h1 tk1 hv hcl F1 N1
    cases hr with
    | cons _ n tx hr =>
    rename_i er
    replace F1 := see2 F1 e1 e2
    obtain rfl : v1 = .int n tx := hv
    (repeat' (first | (k_unfold; (try dsimp only)) | ((fail_if_success (with_reducible first | show wpAny _ _ (PySem.call (Value.ref _) _) _ _ _ | show wpAny _ _ (pyIter (Value.ref _)) _ _ _ | show _ ≤ _ | show UnrEnd _ _ _ _ _ _ _ | show UnrPost _ _ _ _ _ _ _ _ _ | show UnrEndW _ _ _ _ _ _ | show wpAny _ _ (exec (Stmt.For _ _ _ _ _) _) _ _ _)); (first | walk1 | (dsimp only; walk1)) <;> (try dsimp only)) | (leave1; try dsimp only) | fail "no step"))
    (rename Fr _ _ _ _ => lF5)
    (rename News _ _ _ _ => lN5)
    have e : sumI pr + n = sumI (pr ++ [(k, n)]) := by simp [sumI]
    rw [e] at lF5
    exact UnrEndW.intro lF5 lN5 [(dt, ot)] (by k_subL) (by k_subL) (by ktu_offL) ⟨by k_subL, pr ++ [(k, n)], er, _, by rw [hes]; simp, hr, rfl, rfl, rfl⟩
end
end
section
noncomputable def S8 (f : Nat → Int) : Int := f 0 + f 1 + f 2 + f 3 + f 4 + f 5 + f 6 + f 7
noncomputable def S3 (f : Nat → Int) : Int := f 0 + f 1 + f 2
noncomputable def par (i : Nat) : Nat := if i % 2 = 0 then i + 1 else i - 1
theorem ltS {P : Nat → Prop} {n : Nat} (a : P n) (h : ∀ i, i < n → P i) : ∀ i, i < n + 1 → P i := fun i hi =>
  (Nat.lt_succ_iff_lt_or_eq.mp hi).elim (h i) fun e => e ▸ a
theorem lt8 {P : Nat → Prop} (h0 : P 0) (h1 : P 1) (h2 : P 2) (h3 : P 3) (h4 : P 4) (h5 : P 5) (h6 : P 6) (h7 : P 7) : ∀ i, i < 8 → P i :=
  ltS h7 (ltS h6 (ltS h5 (ltS h4 (ltS h3 (ltS h2 (ltS h1 (ltS h0 fun _ h => nomatch h)))))))
theorem lt3 {P : Nat → Prop} (h0 : P 0) (h1 : P 1) (h2 : P 2) : ∀ i, i < 3 → P i :=
  ltS h2 (ltS h1 (ltS h0 fun _ h => nomatch h))
theorem S8_congr {f g : Nat → Int} (h : ∀ i, i < 8 → f i = g i) : S8 f = S8 g := by
  simp only [S8, h 0 (by decide), h 1 (by decide), h 2 (by decide), h 3 (by decide), h 4 (by decide), h 5 (by decide), h 6 (by decide), h 7 (by decide)]
theorem ac4 (a b c d : Int) : a + b + (c + d) = a + c + (b + d) := by omega
theorem stA {L A B x y : Int} (h : L = A + B) : L + (x + y) = (A + x) + (B + y) := by rw [h, ac4]
theorem stS {L A B x y : Int} (h : L = A - B) : L + (x - y) = (A + x) - (B + y) := by rw [h]; omega
theorem stC {L A B C x y z : Int} (h : L = A + B + C) : L + (x + y + z) = (A + x) + (B + y) + (C + z) := by rw [h]; omega
theorem stP {L M x y : Int} (h : L = M) : L + y + x = M + x + y := by rw [h, Int.add_right_comm]
theorem S8_add (f g : Nat → Int) : S8 (fun i => f i + g i) = S8 f + S8 g := stA (stA (stA (stA (stA (stA (stA rfl))))))
theorem S8_sub (f g : Nat → Int) : S8 (fun i => f i - g i) = S8 f - S8 g := stS (stS (stS (stS (stS (stS (stS rfl))))))
theorem stF {L : Int} {F : Nat → Int} (h : L = S8 F) (g : Nat → Int) : L + S8 g = S8 (fun j => F j + g j) := by rw [h, S8_add]
theorem S8_mul (f : Nat → Int) (c : Int) : S8 (fun i => f i * c) = S8 f * c := by simp only [S8, Int.add_mul]
theorem S8_mul' (f : Nat → Int) (c : Int) : S8 (fun i => c * f i) = c * S8 f := by simp only [S8, Int.mul_add]
theorem S8_swap (f : Nat → Nat → Int) : S8 (fun i => S8 (fun j => f i j)) = S8 (fun j => S8 (fun i => f i j)) :=
  stF (stF (stF (stF (stF (stF (stF rfl (f 1)) (f 2)) (f 3)) (f 4)) (f 5)) (f 6)) (f 7)
theorem S8_at {m : Nat} (hm : m < 8) (f : Nat → Int) : S8 (fun i => if i = m then f i else 0) = f m := by
  revert m
  exact @lt8 _ (by simp [S8]) (by simp [S8]) (by simp [S8]) (by simp [S8]) (by simp [S8]) (by simp [S8]) (by simp [S8]) (by simp [S8])
theorem par_lt : ∀ i, i < 8 → par i < 8 := by decide
theorem par_par : ∀ i, i < 8 → par (par i) = i := by decide
theorem S8_par (f : Nat → Int) : S8 (fun i => f (par i)) = S8 f := stP (stP (stP (Int.add_comm (f 1) (f 0))))
noncomputable def adj (o : Nat → Nat) (u v : Nat) : Int := S8 fun i => if o i = u ∧ o (par i) = v then 1 else 0
noncomputable def deg (o : Nat → Nat) (v : Nat) : Int := S8 fun i => if o (par i) = v then 1 else 0
theorem pick3 {a : Nat} (h : a < 3) (φ : Nat → Int) : φ a = S3 fun u => if a = u then φ u else 0 := by
  revert a
  exact @lt3 _ (by simp [S3]) (by simp [S3]) (by simp [S3])
theorem S8_S3 (f : Nat → Nat → Int) : S8 (fun i => S3 (fun u => f i u)) = S3 (fun u => S8 (fun i => f i u)) := by
  exact stC (stC (stC (stC (stC (stC (stC rfl))))))
theorem S3_congr {f g : Nat → Int} (h : ∀ i, i < 3 → f i = g i) : S3 f = S3 g := by
  simp only [S3, h 0 (by decide), h 1 (by decide), h 2 (by decide)]
theorem in_near {o : Nat → Nat} (ho : ∀ i, i < 8 → o i < 3) (φ : Nat → Int) (v : Nat) :
    S8 (fun i => if o (par i) = v then φ (o i) else 0) = S3 (fun u => adj o u v * φ u) := by
  have e : S3 (fun u => adj o u v * φ u) = S8 (fun i => S3 fun u => (if o i = u ∧ o (par i) = v then 1 else 0) * φ u) := by
    rw [S8_S3]
    exact S3_congr fun u _ => by rw [adj, ← S8_mul]
  rw [e]
  refine S8_congr fun i hi => ?_
  by_cases h : o (par i) = v
  · rw [if_pos h, pick3 (ho i hi) φ]
    refine S3_congr fun u _ => ?_
    by_cases h2 : o i = u
    · simp [h, h2]
    · simp [h2]
  · rw [if_neg h]
    simp [h, S3]
theorem in_far {o : Nat → Nat} (ψ : Nat → Int) (v : Nat) :
    S8 (fun i => if o (par i) = v then ψ (o (par i)) else 0) = deg o v * ψ v := by
  rw [deg, ← S8_mul]
  refine S8_congr fun i hi => ?_
  by_cases h : o (par i) = v
  · simp [h]
  · simp [h]
noncomputable def wgt (o : Nat → Nat) (s : Int) (i j : Nat) : Int := if o j = o (par i) then (if j = par i then 1 - s else 1) else 0
theorem wgt_eq {o : Nat → Nat} {s : Int} {i j : Nat} (hi : i < 8) (hj : j < 8) : wgt o s i j = (if o (par i) = o j then 1 else 0) - (if i = par j then s else 0) := by
  unfold wgt
  by_cases h : j = par i
  · subst h
    simp [par_par i hi]
  · have h2 : ¬ i = par j := fun e => h (by rw [e, par_par j hj])
    by_cases h3 : o (par i) = o j
    · simp [h, h2, h3]
    · have h4 : ¬ o j = o (par i) := fun e => h3 e.symm
      simp [h2, h3, h4]
theorem rsL (P D A B x y u v : Int) : P + D + A + B - (x + y + u + v) = P + D - y + A + B + -x + -v + -u := by omega
theorem row_step {o : Nat → Nat} (ho : ∀ i, i < 8 → o i < 3) {s α β : Int} {φ ψ : Nat → Int} {m j : Nat} (hm : m < 8) (hj : j < 8) (x : Nat → Int)
    (hx : ∀ i, i < 8 → x i = φ (o i) + ψ (o (par i)) + (if i = m then α else 0) + (if i = par m then β else 0)) :
    S8 (fun i => x i * wgt o s i j) = (S3 (fun u => adj o u (o j) * φ u) + deg o (o j) * ψ (o j) - s * ψ (o j) + (if o (par m) = o j then α else 0) + (if o m = o j then β else 0))
      + (- s * φ (o (par j))) + (if j = m then - s * β else 0) + (if j = par m then - s * α else 0) := by
  have e1 : S8 (fun i => x i * wgt o s i j) = S8 (fun i => if o (par i) = o j then x i else 0) - S8 (fun i => if i = par j then x i * s else 0) := by
    rw [← S8_sub]
    refine S8_congr fun i hi => ?_
    rw [wgt_eq hi hj, Int.mul_sub]
    by_cases h1 : o (par i) = o j <;> by_cases h2 : i = par j <;> simp only [h1, h2, if_true, if_false, Int.mul_one, Int.mul_zero, Int.sub_zero, Int.zero_sub] <;> (try split) <;> simp_all
  rw [e1, S8_at (par_lt j hj) (fun i => x i * s), hx _ (par_lt j hj), par_par j hj]
  have e2 : S8 (fun i => if o (par i) = o j then x i else 0) = S8 (fun i => if o (par i) = o j then φ (o i) else 0) + S8 (fun i => if o (par i) = o j then ψ (o (par i)) else 0)
      + S8 (fun i => if i = m then (if o (par i) = o j then α else 0) else 0) + S8 (fun i => if i = par m then (if o (par i) = o j then β else 0) else 0) := by
    rw [← S8_add, ← S8_add, ← S8_add]
    refine S8_congr fun i hi => ?_
    rw [hx i hi]
    by_cases h1 : o (par i) = o j
    · simp only [if_pos h1]
    · simp only [if_neg h1, ite_self, Int.add_zero]
  rw [e2, in_near ho, in_far, S8_at hm (fun i => if o (par i) = o j then α else 0), S8_at (par_lt m hm) (fun i => if o (par i) = o j then β else 0), par_par m hm]
  have hc1 : (par j = m) = (j = par m) := propext ⟨fun h => by rw [← h, par_par j hj], fun h => by rw [h, par_par m hm]⟩
  have hc2 : (par j = par m) = (j = m) := propext ⟨fun h => by rw [← par_par j hj, h, par_par m hm], fun h => by rw [h]⟩
  simp only [hc1, hc2]
  have d1 : (φ (o (par j)) + ψ (o j) + (if j = par m then α else 0) + if j = m then β else 0) * s = s * φ (o (par j)) + s * ψ (o j) + (if j = par m then s * α else 0) + (if j = m then s * β else 0) := by
    rw [Int.add_mul, Int.add_mul, Int.add_mul, Int.mul_comm, Int.mul_comm (ψ _)]
    have y1 : (if j = par m then α else 0) * s = (if j = par m then s * α else 0) := by split <;> simp [Int.mul_comm]
    have y2 : (if j = m then β else 0) * s = (if j = m then s * β else 0) := by split <;> simp [Int.mul_comm]
    rw [y1, y2]
  rw [d1]
  have d2 : (if j = m then -s * β else 0) = - (if j = m then s * β else 0) := by split <;> simp [Int.neg_mul]
  have d3 : (if j = par m then -s * α else 0) = - (if j = par m then s * α else 0) := by split <;> simp [Int.neg_mul]
  rw [d2, d3, Int.neg_mul]
  exact rsL ..
noncomputable def Wk (o : Nat → Nat) (s : Int) : Nat → Nat → Nat → Int
  | 0, m, j => if j = m then 1 else 0
  | k + 1, m, j => S8 fun i => Wk o s k m i * wgt o s i j
end
section
noncomputable def al2 (s : Int) : Nat → Int × Int
  | 0 => (1, 0)
  | k + 1 => (- s * (al2 s k).2, - s * (al2 s k).1)
noncomputable def Ek (A : Nat → Nat → Int) (D : Nat → Int) (s : Int) : Nat → Nat → Nat → Int
  | 0 => fun _ _ => 0
  | 1 => fun _ _ => 0
  | 2 => fun _ _ => 0
  | k + 3 => fun a v => S3 (fun u => A u v * Ek A D s (k + 2) a u) + s * (s - D v) * Ek A D s (k + 1) a v + (if a = v then (al2 s k).1 else 0)
theorem S3_add (f g : Nat → Int) : S3 (fun i => f i + g i) = S3 f + S3 g := by simp only [S3]; (first | lia | omega)
theorem S3_mul (f : Nat → Int) (c : Int) : S3 (fun i => c * f i) = c * S3 f := by simp only [S3, Int.mul_add]
theorem Wk_eq {o : Nat → Nat} (ho : ∀ i, i < 8 → o i < 3) (s : Int) (m : Nat) (hm : m < 8) : ∀ k j, j < 8 → Wk o s k m j =
    (Ek (adj o) (deg o) s (k + 2) (o (par m)) (o j) + - s * Ek (adj o) (deg o) s (k + 1) (o m) (o j))
    + (- s * Ek (adj o) (deg o) s (k + 1) (o (par m)) (o (par j)) + s * s * Ek (adj o) (deg o) s k (o m) (o (par j)))
    + (if j = m then (al2 s k).1 else 0) + (if j = par m then (al2 s k).2 else 0) := by
  intro k
  induction k with
  | zero =>
    intro j hj
    simp [Wk, Ek, al2]
  | succ k ih =>
    intro j hj
    rw [Wk, row_step (o := o) ho hm hj (s := s) (α := (al2 s k).1) (β := (al2 s k).2)
      (φ := fun v => Ek (adj o) (deg o) s (k + 2) (o (par m)) v + - s * Ek (adj o) (deg o) s (k + 1) (o m) v)
      (ψ := fun v => - s * Ek (adj o) (deg o) s (k + 1) (o (par m)) v + s * s * Ek (adj o) (deg o) s k (o m) v) _ ih]
    have e1 : S3 (fun u => adj o u (o j) * (Ek (adj o) (deg o) s (k + 2) (o (par m)) u + - s * Ek (adj o) (deg o) s (k + 1) (o m) u))
        = S3 (fun u => adj o u (o j) * Ek (adj o) (deg o) s (k + 2) (o (par m)) u) + - s * S3 (fun u => adj o u (o j) * Ek (adj o) (deg o) s (k + 1) (o m) u) := by
      rw [← S3_mul, ← S3_add]
      exact S3_congr fun u _ => by rw [Int.mul_add, Int.mul_left_comm]
    have e2 : - s * Ek (adj o) (deg o) s (k + 2) (o m) (o j) = - s * S3 (fun u => adj o u (o j) * Ek (adj o) (deg o) s (k + 1) (o m) u) + - s * (s * (s - deg o (o j)) * Ek (adj o) (deg o) s k (o m) (o j)) + (if o m = o j then (al2 s k).2 else 0) := by
      cases k with
      | zero => simp [Ek, al2, S3]
      | succ k =>
        rw [Ek, al2, Int.mul_add, Int.mul_add]
        congr 1
        split <;> simp
    have e3 : Ek (adj o) (deg o) s (k + 3) (o (par m)) (o j) = S3 (fun u => adj o u (o j) * Ek (adj o) (deg o) s (k + 2) (o (par m)) u) + s * (s - deg o (o j)) * Ek (adj o) (deg o) s (k + 1) (o (par m)) (o j) + (if o (par m) = o j then (al2 s k).1 else 0) := rfl
    rw [e1, show k + 1 + 2 = k + 3 from rfl, show k + 1 + 1 = k + 2 from rfl, e2, e3, show al2 s (k + 1) = (- s * (al2 s k).2, - s * (al2 s k).1) from rfl]
    generalize Ek (adj o) (deg o) s (k + 1) (o (par m)) (o j) = X1
    generalize Ek (adj o) (deg o) s k (o m) (o j) = X2
    generalize Ek (adj o) (deg o) s (k + 2) (o (par m)) (o (par j)) = X3
    generalize Ek (adj o) (deg o) s (k + 1) (o m) (o (par j)) = X4
    have r1 : s * (s - deg o (o j)) * X1 = deg o (o j) * (- s * X1) - s * (- s * X1) := by grind
    have r2 : - s * (s * (s - deg o (o j)) * X2) = deg o (o j) * (s * s * X2) - s * (s * s * X2) := by grind
    have r3 : - s * (X3 + - s * X4) = - s * X3 + s * s * X4 := by grind
    rw [r1, r2, r3, Int.mul_add, Int.mul_add]
    dsimp only
    (first | lia | omega)
theorem S8_pair {o : Nat → Nat} (ho : ∀ i, i < 8 → o i < 3) (f : Nat → Nat → Int) : S8 (fun i => f (o i) (o (par i))) = S3 fun u => S3 fun v => adj o u v * f u v := by
  have ho2 : ∀ i, i < 8 → o (par i) < 3 := fun i hi => ho _ (par_lt i hi)
  have e : S3 (fun u => S3 fun v => adj o u v * f u v) = S8 fun i => S3 fun u => S3 fun v => (if o i = u ∧ o (par i) = v then 1 else 0) * f u v := by
    rw [S8_S3]
    refine S3_congr fun u _ => ?_
    rw [S8_S3]
    exact S3_congr fun v _ => by rw [adj, ← S8_mul]
  rw [e]
  refine S8_congr fun i hi => ?_
  rw [pick3 (ho i hi) (fun u => f u (o (par i)))]
  refine S3_congr fun u _ => ?_
  by_cases h : o i = u
  · rw [if_pos h, pick3 (ho2 i hi) (f u)]
    refine S3_congr fun v _ => ?_
    by_cases h2 : o (par i) = v
    · simp [h, h2]
    · simp [h2]
  · rw [if_neg h]; simp [h, S3]
theorem S8_deg {o : Nat → Nat} (ho : ∀ i, i < 8 → o i < 3) (f : Nat → Int) : S8 (fun i => f (o (par i))) = S3 fun v => deg o v * f v := by
  have ho2 : ∀ i, i < 8 → o (par i) < 3 := fun i hi => ho _ (par_lt i hi)
  have e : S3 (fun v => deg o v * f v) = S8 fun i => S3 fun v => (if o (par i) = v then 1 else 0) * f v := by
    rw [S8_S3]
    exact S3_congr fun v _ => by rw [deg, ← S8_mul]
  rw [e]
  refine S8_congr fun i hi => ?_
  rw [pick3 (ho2 i hi) f]
  refine S3_congr fun v _ => ?_
  by_cases h2 : o (par i) = v
  · simp [h2]
  · simp [h2]
noncomputable def tra (A : Nat → Nat → Int) (D : Nat → Int) (s : Int) (k : Nat) : Int :=
  8 * (al2 s k).1 + S3 (fun u => S3 fun v => A u v * Ek A D s (k + 2) v u) + s * s * S3 (fun u => S3 fun v => A u v * Ek A D s k u v) + - (2 * s) * S3 (fun v => D v * Ek A D s (k + 1) v v)
theorem tr_eq {o : Nat → Nat} (ho : ∀ i, i < 8 → o i < 3) (s : Int) (k : Nat) : S8 (fun m => Wk o s k m m) = tra (adj o) (deg o) s k := by
  have ho2 : ∀ i, i < 8 → o (par i) < 3 := fun i hi => ho _ (par_lt i hi)
  have hne : ∀ m, m < 8 → m ≠ par m := by decide
  rw [S8_congr fun m hm => Wk_eq ho s m hm k m hm, tra]
  generalize Ek (adj o) (deg o) s (k + 2) = F
  generalize Ek (adj o) (deg o) s (k + 1) = G
  generalize Ek (adj o) (deg o) s k = H
  generalize al2 s k = t
  have e0 : S8 (fun m => (F (o (par m)) (o m) + - s * G (o m) (o m)) + (- s * G (o (par m)) (o (par m)) + s * s * H (o m) (o (par m))) + (if m = m then t.1 else 0) + (if m = par m then t.2 else 0))
      = S8 (fun m => F (o (par m)) (o m)) + S8 (fun m => s * s * H (o m) (o (par m))) + S8 (fun m => - s * G (o (par m)) (o (par m))) + S8 (fun m => - s * G (o (par m)) (o (par m))) + 8 * t.1 := by
    conv => rhs; arg 1; arg 2; rw [show S8 (fun m => - s * G (o (par m)) (o (par m))) = S8 (fun m => - s * G (o m) (o m)) from S8_par fun m => - s * G (o m) (o m)]
    rw [show 8 * t.1 = S8 (fun _ => t.1) by simp only [S8]; (first | lia | omega), ← S8_add, ← S8_add, ← S8_add, ← S8_add]
    refine S8_congr fun m hm => ?_
    rw [if_pos rfl, if_neg (hne m hm)]
    (first | lia | omega)
  rw [e0, S8_pair ho (fun u v => F v u), S8_mul' (fun m => H (o m) (o (par m))), S8_pair ho (fun u v => H u v), S8_deg ho (fun v => - s * G v v)]
  have e1 : S3 (fun v => deg o v * (- s * G v v)) = - s * S3 (fun v => deg o v * G v v) := by
    rw [← S3_mul]; exact S3_congr fun v _ => Int.mul_left_comm ..
  rw [e1]
  generalize S3 (fun v => deg o v * G v v) = X
  have : -(2 * s) * X = - s * X + - s * X := by grind
  (first | lia | omega)
end
section
structure M3 where
  a : Int
  b : Int
  c : Int
  d : Int
  e : Int
  f : Int
  g : Int
  h : Int
  i : Int
noncomputable def nx (A : M3) (x y z : Int) (F G : M3) (al : Int) : M3 := ⟨(Int.add (Int.add (Int.add (Int.add (Int.mul A.a F.a) (Int.mul A.d F.b)) (Int.mul A.g F.c)) (Int.mul x G.a)) al),
  (Int.add (Int.add (Int.add (Int.mul A.b F.a) (Int.mul A.e F.b)) (Int.mul A.h F.c)) (Int.mul y G.b)),
  (Int.add (Int.add (Int.add (Int.mul A.c F.a) (Int.mul A.f F.b)) (Int.mul A.i F.c)) (Int.mul z G.c)),
  (Int.add (Int.add (Int.add (Int.mul A.a F.d) (Int.mul A.d F.e)) (Int.mul A.g F.f)) (Int.mul x G.d)),
  (Int.add (Int.add (Int.add (Int.add (Int.mul A.b F.d) (Int.mul A.e F.e)) (Int.mul A.h F.f)) (Int.mul y G.e)) al),
  (Int.add (Int.add (Int.add (Int.mul A.c F.d) (Int.mul A.f F.e)) (Int.mul A.i F.f)) (Int.mul z G.f)),
  (Int.add (Int.add (Int.add (Int.mul A.a F.g) (Int.mul A.d F.h)) (Int.mul A.g F.i)) (Int.mul x G.g)),
  (Int.add (Int.add (Int.add (Int.mul A.b F.g) (Int.mul A.e F.h)) (Int.mul A.h F.i)) (Int.mul y G.h)),
  (Int.add (Int.add (Int.add (Int.add (Int.mul A.c F.g) (Int.mul A.f F.h)) (Int.mul A.i F.i)) (Int.mul z G.i)) al)⟩
noncomputable def M3.tr (A F : M3) : Int := (Int.add (Int.add (Int.add (Int.add (Int.mul A.a F.a) (Int.mul A.b F.d)) (Int.mul A.c F.g)) (Int.add (Int.add (Int.mul A.d F.b) (Int.mul A.e F.e)) (Int.mul A.f F.h))) (Int.add (Int.add (Int.mul A.g F.c) (Int.mul A.h F.f)) (Int.mul A.i F.i)))
noncomputable def M3.dg (x y z : Int) (F : M3) : Int := (Int.add (Int.add (Int.mul x F.a) (Int.mul y F.e)) (Int.mul z F.i))
noncomputable def one3 : M3 := ⟨.ofNat 1, .ofNat 0, .ofNat 0, .ofNat 0, .ofNat 1, .ofNat 0, .ofNat 0, .ofNat 0, .ofNat 1⟩
structure P5 where
  p1 : Int
  p2 : Int
  p3 : Int
  p4 : Int
  p5 : Int
noncomputable def p5of2 (A : M3) (x y z s s2 : Int) (E4 E5 E6 E7 : M3) : P5 :=
  ⟨A.tr one3, (Int.sub (Int.add (Int.mul (Int.ofNat 8) s2) (A.tr E4)) (Int.mul (Int.mul (Int.ofNat 2) s) (M3.dg x y z one3))), (Int.sub (Int.add (A.tr E5) (Int.mul s2 (A.tr one3))) (Int.mul (Int.mul (Int.ofNat 2) s) (M3.dg x y z E4))),
    (Int.sub (Int.add (Int.add (Int.mul (Int.ofNat 8) (Int.mul s2 s2)) (A.tr E6)) (Int.mul s2 (A.tr E4))) (Int.mul (Int.mul (Int.ofNat 2) s) (M3.dg x y z E5))), (Int.sub (Int.add (A.tr E7) (Int.mul s2 (A.tr E5))) (Int.mul (Int.mul (Int.ofNat 2) s) (M3.dg x y z E6)))⟩
noncomputable def p5of1 (A : M3) (x y z s s2 u v w : Int) (E4 E5 : M3) : P5 := p5of2 A x y z s s2 E4 E5 (nx A u v w E5 E4 (.ofNat 0)) (nx A u v w (nx A u v w E5 E4 (.ofNat 0)) E5 (Int.mul s2 s2))
noncomputable def p5of (A : M3) (x y z s : Int) : P5 :=
  p5of1 A x y z s (Int.mul s s) (Int.mul s (Int.sub s x)) (Int.mul s (Int.sub s y)) (Int.mul s (Int.sub s z)) A (nx A (Int.mul s (Int.sub s x)) (Int.mul s (Int.sub s y)) (Int.mul s (Int.sub s z)) A one3 (Int.mul s s))
structure C8 where
  c0 : Int
  c1 : Int
  c2 : Int
  c3 : Int
  c4 : Int
  c5 : Int
  c6 : Int
  c7 : Int
noncomputable def c8of4 (s2 h0 h1 h2 h3 h4 h5 : Int) : C8 := ⟨(Int.neg (Int.mul s2 h0)), (Int.neg (Int.mul s2 h1)), (Int.sub h0 (Int.mul s2 h2)), (Int.sub h1 (Int.mul s2 h3)), (Int.sub h2 (Int.mul s2 h4)), (Int.sub h3 (Int.mul s2 h5)), (Int.sub h4 s2), h5⟩
noncomputable def c8of3 (s2 u c m0 m1 m2 k0 k1 k2 k3 : Int) : C8 := c8of4 s2 (Int.mul k0 u) (Int.sub (Int.mul k1 u) (Int.mul c k0)) (Int.sub (Int.add (Int.sub (Int.mul k2 u) (Int.mul c k1)) k0) m0) (Int.sub (Int.add (Int.sub (Int.mul k3 u) (Int.mul c k2)) k1) m1) (Int.sub (Int.add (Int.sub u (Int.mul c k3)) k2) m2) (Int.sub k3 c)
noncomputable def c8of2 (A : M3) (s2 u0 u1 u2 : Int) : C8 := c8of3 s2 u2 A.i (Int.add (Int.add (Int.mul (Int.mul A.f A.f) u0) (Int.mul (Int.mul A.c A.c) u1)) (Int.mul (Int.mul A.b A.b) u2)) (Int.sub (Int.mul (Int.ofNat 2) (Int.mul (Int.mul A.b A.c) A.f)) (Int.add (Int.add (Int.mul (Int.mul A.f A.f) A.a) (Int.mul (Int.mul A.c A.c) A.e)) (Int.mul (Int.mul A.b A.b) A.i))) (Int.add (Int.add (Int.mul A.f A.f) (Int.mul A.c A.c)) (Int.mul A.b A.b)) (Int.mul u0 u1) (Int.neg (Int.add (Int.mul A.a u1) (Int.mul A.e u0))) (Int.add (Int.add u0 u1) (Int.mul A.a A.e)) (Int.neg (Int.add A.a A.e))
noncomputable def c8of (A : M3) (x y z s : Int) : C8 := c8of2 A (Int.mul s s) (Int.mul s (Int.sub x s)) (Int.mul s (Int.sub y s)) (Int.mul s (Int.sub z s))
noncomputable def isz (x : Int) : Bool := match x with
  | .ofNat n => Nat.beq n 0
  | .negSucc _ => false
noncomputable def low (b : Nat) (x : Int) : Bool := match x with
  | .ofNat n => Nat.ble n b
  | .negSucc n => Nat.blt n b
noncomputable def chk1 (p : P5) (c : C8) : Bool := (isz (Int.add p.p1 c.c7) && isz (Int.add (Int.add p.p2 (Int.mul c.c7 p.p1)) (Int.mul (Int.ofNat 2) c.c6)) && isz (Int.add (Int.add (Int.add p.p3 (Int.mul c.c7 p.p2)) (Int.mul c.c6 p.p1)) (Int.mul (Int.ofNat 3) c.c5)) && isz (Int.add (Int.add (Int.add (Int.add p.p4 (Int.mul c.c7 p.p3)) (Int.mul c.c6 p.p2)) (Int.mul c.c5 p.p1)) (Int.mul (Int.ofNat 4) c.c4)) && isz (Int.add (Int.add (Int.add (Int.add (Int.add p.p5 (Int.mul c.c7 p.p4)) (Int.mul c.c6 p.p3)) (Int.mul c.c5 p.p2)) (Int.mul c.c4 p.p1)) (Int.mul (Int.ofNat 5) c.c3))) && (low (2 ^ 20) c.c0 && low (2 ^ 20) c.c1 && low (2 ^ 20) c.c2 && low (2 ^ 20) c.c3 && low (2 ^ 20) c.c4 && low (2 ^ 20) c.c5 && low (2 ^ 20) c.c6 && low (2 ^ 20) c.c7) && (low (2 ^ 21) p.p1 && low (2 ^ 21) p.p2 && low (2 ^ 21) p.p3 && low (2 ^ 21) p.p4 && low (2 ^ 21) p.p5) && low (2 ^ 28) (Int.add (Int.add (Int.add (Int.add (Int.add (Int.mul p.p5 c.c7) (Int.mul p.p4 c.c6)) (Int.mul p.p3 c.c5)) (Int.mul p.p2 c.c4)) (Int.mul p.p1 c.c3)) (Int.mul (Int.ofNat 6) c.c2))
noncomputable def chk (A : M3) (x y z s : Int) : Bool := chk1 (p5of A x y z s) (c8of A x y z s)
noncomputable def ofC (x0 x1 x2 y0 y1 y2 : Nat) (s : Int) : Bool := chk ⟨.ofNat (Nat.mul 2 x0), .ofNat y0, .ofNat y1, .ofNat y0, .ofNat (Nat.mul 2 x1), .ofNat y2, .ofNat y1, .ofNat y2, .ofNat (Nat.mul 2 x2)⟩
  (.ofNat (Nat.add (Nat.mul 2 x0) (Nat.add y0 y1))) (.ofNat (Nat.add (Nat.mul 2 x1) (Nat.add y0 y2))) (.ofNat (Nat.add (Nat.mul 2 x2) (Nat.add y1 y2))) s
noncomputable def l5 (n : Nat) : List Nat := match n with | 0 => [] | 1 => [0] | 2 => [0, 1] | 3 => [0, 1, 2] | 4 => [0, 1, 2, 3] | _ => [0, 1, 2, 3, 4]
noncomputable def allC (s : Int) : Bool :=
  (l5 5).all fun x0 => (l5 (Nat.sub 5 x0)).all fun x1 => (l5 (Nat.sub (Nat.sub 5 x0) x1)).all fun x2 => (l5 (Nat.sub (Nat.sub (Nat.sub 5 x0) x1) x2)).all fun y0 => (l5 (Nat.sub (Nat.sub (Nat.sub (Nat.sub 5 x0) x1) x2) y0)).all fun y1 =>
    ofC x0 x1 x2 y0 y1 (Nat.sub (Nat.sub (Nat.sub (Nat.sub (Nat.sub 4 x0) x1) x2) y0) y1) s
end
section
theorem l5_mem {n i : Nat} (h1 : i < n) (h2 : n ≤ 5) : i ∈ l5 n :=
  (by decide : ∀ n, n < 6 → ∀ i, i < n → i ∈ l5 n) n (Nat.lt_succ_of_le h2) i h1
theorem allC_ofC {s : Int} (h : allC s = true) (x0 x1 x2 y0 y1 y2 : Nat) (hs : x0 + x1 + x2 + y0 + y1 + y2 = 4) : ofC x0 x1 x2 y0 y1 y2 s = true := by
  unfold allC at h
  have h1 := List.all_eq_true.mp h x0 (l5_mem (by omega) (by omega))
  have h2 := List.all_eq_true.mp h1 x1 (l5_mem (show x1 < 5 - x0 by omega) (show 5 - x0 ≤ 5 by omega))
  have h3 := List.all_eq_true.mp h2 x2 (l5_mem (show x2 < 5 - x0 - x1 by omega) (show 5 - x0 - x1 ≤ 5 by omega))
  have h4 := List.all_eq_true.mp h3 y0 (l5_mem (show y0 < 5 - x0 - x1 - x2 by omega) (show 5 - x0 - x1 - x2 ≤ 5 by omega))
  have h5 := List.all_eq_true.mp h4 y1 (l5_mem (show y1 < 5 - x0 - x1 - x2 - y0 by omega) (show 5 - x0 - x1 - x2 - y0 ≤ 5 by omega))
  have e : Nat.sub (Nat.sub (Nat.sub (Nat.sub (Nat.sub 4 x0) x1) x2) y0) y1 = y2 := by show 4 - x0 - x1 - x2 - y0 - y1 = y2; omega
  rw [e] at h5
  exact h5
theorem allC_all : ∀ s : Int, -3 ≤ s → s ≤ 4 → allC s = true := fun s h1 h2 => by
  obtain ⟨k, hk⟩ := Int.eq_ofNat_of_zero_le (show 0 ≤ s + 3 by omega)
  have e : s = (k : Int) - 3 := by omega
  rw [e]
  exact @lt8 (fun k => allC ((k : Int) - 3) = true) (by decide +kernel) (by decide +kernel) (by decide +kernel) (by decide +kernel) (by decide +kernel) (by decide +kernel) (by decide +kernel) (by decide +kernel) k (by omega)
end
section
noncomputable def e1 (n f u v : Nat) : Nat := if (n = u ∧ f = v) ∨ (n = v ∧ f = u) then 1 else 0
noncomputable def cnt (o : Nat → Nat) (u v : Nat) : Nat := e1 (o 0) (o 1) u v + e1 (o 2) (o 3) u v + e1 (o 4) (o 5) u v + e1 (o 6) (o 7) u v
theorem e1_all : ∀ n, n < 3 → ∀ f, f < 3 → e1 n f 0 0 + e1 n f 1 1 + e1 n f 2 2 + e1 n f 0 1 + e1 n f 0 2 + e1 n f 1 2 = 1 := by decide
theorem cnt_all {o : Nat → Nat} (ho : ∀ i, i < 8 → o i < 3) : cnt o 0 0 + cnt o 1 1 + cnt o 2 2 + cnt o 0 1 + cnt o 0 2 + cnt o 1 2 = 4 := by
  have h1 := e1_all _ (ho 0 (by decide)) _ (ho 1 (by decide))
  have h2 := e1_all _ (ho 2 (by decide)) _ (ho 3 (by decide))
  have h3 := e1_all _ (ho 4 (by decide)) _ (ho 5 (by decide))
  have h4 := e1_all _ (ho 6 (by decide)) _ (ho 7 (by decide))
  unfold cnt
  (first | lia | omega)
theorem e1_two : ∀ n, n < 3 → ∀ f, f < 3 → ∀ u, u < 3 → ∀ v, v < 3 → ((if n = u ∧ f = v then 1 else 0) + (if f = u ∧ n = v then 1 else 0) : Int) = if u = v then ((2 * e1 n f u v : Nat) : Int) else ((e1 n f u v : Nat) : Int) := by decide
theorem adj_cnt {o : Nat → Nat} (ho : ∀ i, i < 8 → o i < 3) {u v : Nat} (hu : u < 3) (hv : v < 3) : adj o u v = if u = v then ((2 * cnt o u v : Nat) : Int) else ((cnt o u v : Nat) : Int) := by
  have h1 := e1_two _ (ho 0 (by decide)) _ (ho 1 (by decide)) u hu v hv
  have h2 := e1_two _ (ho 2 (by decide)) _ (ho 3 (by decide)) u hu v hv
  have h3 := e1_two _ (ho 4 (by decide)) _ (ho 5 (by decide)) u hu v hv
  have h4 := e1_two _ (ho 6 (by decide)) _ (ho 7 (by decide)) u hu v hv
  have e : adj o u v = ((if o 0 = u ∧ o 1 = v then 1 else 0) + (if o 1 = u ∧ o 0 = v then 1 else 0)) + ((if o 2 = u ∧ o 3 = v then 1 else 0) + (if o 3 = u ∧ o 2 = v then 1 else 0))
    + ((if o 4 = u ∧ o 5 = v then 1 else 0) + (if o 5 = u ∧ o 4 = v then 1 else 0)) + ((if o 6 = u ∧ o 7 = v then 1 else 0) + (if o 7 = u ∧ o 6 = v then 1 else 0)) := by
    simp only [adj, S8, show par 0 = 1 from rfl, show par 1 = 0 from rfl, show par 2 = 3 from rfl, show par 3 = 2 from rfl, show par 4 = 5 from rfl, show par 5 = 4 from rfl, show par 6 = 7 from rfl, show par 7 = 6 from rfl]
    (first | lia | omega)
  rw [e, h1, h2, h3, h4]
  unfold cnt
  split <;> (first | lia | omega)
theorem e1_sym (n f u v : Nat) : e1 n f u v = e1 n f v u := by
  unfold e1
  by_cases h1 : (n = u ∧ f = v) <;> by_cases h2 : (n = v ∧ f = u) <;> simp [h1, h2]
theorem cnt_sym (o : Nat → Nat) (u v : Nat) : cnt o u v = cnt o v u := by
  unfold cnt; rw [e1_sym _ _ u v, e1_sym _ _ u v, e1_sym _ _ u v, e1_sym _ _ u v]
theorem deg_adj {o : Nat → Nat} (ho : ∀ i, i < 8 → o i < 3) (v : Nat) : deg o v = adj o 0 v + adj o 1 v + adj o 2 v := by
  have h := in_near ho (fun _ => 1) v
  rw [deg, h]; simp [S3]
noncomputable def m3of (o : Nat → Nat) : M3 := ⟨adj o 0 0, adj o 0 1, adj o 0 2, adj o 1 0, adj o 1 1, adj o 1 2, adj o 2 0, adj o 2 1, adj o 2 2⟩
theorem chk_of {o : Nat → Nat} (ho : ∀ i, i < 8 → o i < 3) {s : Int} (h1 : -3 ≤ s) (h2 : s ≤ 4) : chk (m3of o) (deg o 0) (deg o 1) (deg o 2) s = true := by
  have h := allC_ofC (allC_all s h1 h2) _ _ _ _ _ _ (cnt_all ho)
  unfold ofC at h
  have a00 := adj_cnt ho (u := 0) (v := 0) (by decide) (by decide)
  have a11 := adj_cnt ho (u := 1) (v := 1) (by decide) (by decide)
  have a22 := adj_cnt ho (u := 2) (v := 2) (by decide) (by decide)
  have a01 := adj_cnt ho (u := 0) (v := 1) (by decide) (by decide)
  have a02 := adj_cnt ho (u := 0) (v := 2) (by decide) (by decide)
  have a12 := adj_cnt ho (u := 1) (v := 2) (by decide) (by decide)
  have a10 := adj_cnt ho (u := 1) (v := 0) (by decide) (by decide)
  have a20 := adj_cnt ho (u := 2) (v := 0) (by decide) (by decide)
  have a21 := adj_cnt ho (u := 2) (v := 1) (by decide) (by decide)
  rw [cnt_sym o 1 0] at a10
  rw [cnt_sym o 2 0] at a20
  rw [cnt_sym o 2 1] at a21
  rw [if_pos rfl] at a00 a11 a22
  rw [if_neg (by decide)] at a01 a02 a12 a10 a20 a21
  have d0 : deg o 0 = Int.ofNat (Nat.add (Nat.mul 2 (cnt o 0 0)) (Nat.add (cnt o 0 1) (cnt o 0 2))) := by
    rw [deg_adj ho, a00, a10, a20]
    show _ = ((2 * cnt o 0 0 + (cnt o 0 1 + cnt o 0 2) : Nat) : Int)
    (first | lia | omega)
  have d1 : deg o 1 = Int.ofNat (Nat.add (Nat.mul 2 (cnt o 1 1)) (Nat.add (cnt o 0 1) (cnt o 1 2))) := by
    rw [deg_adj ho, a01, a11, a21]
    show _ = ((2 * cnt o 1 1 + (cnt o 0 1 + cnt o 1 2) : Nat) : Int)
    (first | lia | omega)
  have d2 : deg o 2 = Int.ofNat (Nat.add (Nat.mul 2 (cnt o 2 2)) (Nat.add (cnt o 0 2) (cnt o 1 2))) := by
    rw [deg_adj ho, a02, a12, a22]
    show _ = ((2 * cnt o 2 2 + (cnt o 0 2 + cnt o 1 2) : Nat) : Int)
    (first | lia | omega)
  rw [m3of, a00, a01, a02, a10, a11, a12, a20, a21, a22, d0, d1, d2]
  exact h
noncomputable def M3.get (F : M3) : Nat → Nat → Int
  | 0, 0 => F.a | 0, 1 => F.b | 0, _ => F.c
  | 1, 0 => F.d | 1, 1 => F.e | 1, _ => F.f
  | _, 0 => F.g | _, 1 => F.h | _, _ => F.i
noncomputable def Is3 (f : Nat → Nat → Int) (F : M3) : Prop := f 0 0 = F.a ∧ f 0 1 = F.b ∧ f 0 2 = F.c ∧ f 1 0 = F.d ∧ f 1 1 = F.e ∧ f 1 2 = F.f ∧ f 2 0 = F.g ∧ f 2 1 = F.h ∧ f 2 2 = F.i
theorem is3_adj (o : Nat → Nat) : Is3 (adj o) (m3of o) := ⟨rfl, rfl, rfl, rfl, rfl, rfl, rfl, rfl, rfl⟩
theorem is3_next {A : Nat → Nat → Int} {D : Nat → Int} {s al : Int} {X F G : M3} {f g h : Nat → Nat → Int} (hA : Is3 A X) (hf : Is3 f F) (hg : Is3 g G)
    (hh : ∀ a v, h a v = S3 (fun u => A u v * f a u) + s * (s - D v) * g a v + (if a = v then al else 0)) : Is3 h (nx X (s * (s - D 0)) (s * (s - D 1)) (s * (s - D 2)) F G al) := by
  obtain ⟨b1, b2, b3, b4, b5, b6, b7, b8, b9⟩ := hA
  obtain ⟨f1, f2, f3, f4, f5, f6, f7, f8, f9⟩ := hf
  obtain ⟨g1, g2, g3, g4, g5, g6, g7, g8, g9⟩ := hg
  refine ⟨?_, ?_, ?_, ?_, ?_, ?_, ?_, ?_, ?_⟩ <;> rw [hh] <;> simp only [S3, b1, b2, b3, b4, b5, b6, b7, b8, b9, f1, f2, f3, f4, f5, f6, f7, f8, f9, g1, g2, g3, g4, g5, g6, g7, g8, g9]
  all_goals first | rfl | exact Int.add_zero _
theorem tr_is {A : Nat → Nat → Int} {X F : M3} {f : Nat → Nat → Int} (hA : Is3 A X) (hf : Is3 f F) : S3 (fun u => S3 fun v => A u v * f v u) = X.tr F := by
  obtain ⟨b1, b2, b3, b4, b5, b6, b7, b8, b9⟩ := hA
  obtain ⟨f1, f2, f3, f4, f5, f6, f7, f8, f9⟩ := hf
  simp only [S3, b1, b2, b3, b4, b5, b6, b7, b8, b9, f1, f2, f3, f4, f5, f6, f7, f8, f9]
  rfl
theorem tr_sym {A f : Nat → Nat → Int} (h : ∀ u v, u < 3 → v < 3 → A u v = A v u) : S3 (fun u => S3 fun v => A u v * f u v) = S3 (fun u => S3 fun v => A u v * f v u) := by
  simp only [S3, h 1 0 (by decide) (by decide), h 2 0 (by decide) (by decide), h 2 1 (by decide) (by decide)]
  (first | lia | omega)
theorem dg_is {D : Nat → Int} {F : M3} {f : Nat → Nat → Int} (hf : Is3 f F) : S3 (fun v => D v * f v v) = M3.dg (D 0) (D 1) (D 2) F := by
  obtain ⟨f1, f2, f3, f4, f5, f6, f7, f8, f9⟩ := hf
  simp only [S3, f1, f5, f9]
  rfl
theorem sums_eq {o : Nat → Nat} (ho : ∀ i, i < 8 → o i < 3) (s : Int) :
    tra (adj o) (deg o) s 1 = (p5of (m3of o) (deg o 0) (deg o 1) (deg o 2) s).p1 ∧ tra (adj o) (deg o) s 2 = (p5of (m3of o) (deg o 0) (deg o 1) (deg o 2) s).p2 ∧
    tra (adj o) (deg o) s 3 = (p5of (m3of o) (deg o 0) (deg o 1) (deg o 2) s).p3 ∧ tra (adj o) (deg o) s 4 = (p5of (m3of o) (deg o 0) (deg o 1) (deg o 2) s).p4 ∧
    tra (adj o) (deg o) s 5 = (p5of (m3of o) (deg o 0) (deg o 1) (deg o 2) s).p5 := by
  have hA := is3_adj o
  have hsym : ∀ u v, u < 3 → v < 3 → adj o u v = adj o v u := fun u v hu hv => by
    rw [adj_cnt ho hu hv, adj_cnt ho hv hu, cnt_sym]
    by_cases h : u = v
    · subst h; rfl
    · rw [if_neg h, if_neg (fun e => h e.symm)]
  have z : Is3 (fun _ _ => 0) ⟨0, 0, 0, 0, 0, 0, 0, 0, 0⟩ := ⟨rfl, rfl, rfl, rfl, rfl, rfl, rfl, rfl, rfl⟩
  have i2 : Is3 (Ek (adj o) (deg o) s 2) ⟨0, 0, 0, 0, 0, 0, 0, 0, 0⟩ := z
  have i1 : Is3 (Ek (adj o) (deg o) s 1) ⟨0, 0, 0, 0, 0, 0, 0, 0, 0⟩ := z
  have i3 : Is3 (Ek (adj o) (deg o) s 3) one3 := by
    refine ⟨?_, ?_, ?_, ?_, ?_, ?_, ?_, ?_, ?_⟩ <;> (rw [Ek]; simp [S3, Ek, al2, one3])
  have a1 : (al2 s 1).1 = 0 := by simp [al2]
  have a2 : (al2 s 2).1 = s * s := by simp [al2]; grind
  have a3 : (al2 s 3).1 = 0 := by simp [al2]
  have a4 : (al2 s 4).1 = s * s * (s * s) := by simp [al2]; grind
  have i4 : Is3 (Ek (adj o) (deg o) s 4) (m3of o) := by
    obtain ⟨g1, g2, g3, g4, g5, g6, g7, g8, g9⟩ := i3
    have e : ∀ a v, Ek (adj o) (deg o) s 4 a v = S3 (fun u => adj o u v * Ek (adj o) (deg o) s 3 a u) := fun a v => by
      rw [Ek, a1]; simp [Ek]
    refine ⟨?_, ?_, ?_, ?_, ?_, ?_, ?_, ?_, ?_⟩ <;> rw [e] <;> simp only [S3, g1, g2, g3, g4, g5, g6, g7, g8, g9, one3, m3of]
    all_goals (simp only [show Int.ofNat 1 = 1 from rfl, show Int.ofNat 0 = 0 from rfl, Int.mul_one, Int.mul_zero, Int.add_zero, Int.zero_add])
    all_goals first | rfl | exact hsym _ _ (by decide) (by decide)
  have i5 := is3_next (h := Ek (adj o) (deg o) s 5) hA i4 i3 (fun a v => rfl)
  have i6 := is3_next (h := Ek (adj o) (deg o) s 6) hA i5 i4 (fun a v => rfl)
  have i7 := is3_next (h := Ek (adj o) (deg o) s 7) hA i6 i5 (fun a v => rfl)
  rw [a2] at i5 i6 i7
  rw [a3] at i6 i7
  rw [a4] at i7
  have hz : ∀ f : Nat → Nat → Int, Is3 f ⟨0, 0, 0, 0, 0, 0, 0, 0, 0⟩ → S3 (fun u => S3 fun v => adj o u v * f v u) = 0 := fun f hf => by
    rw [tr_is hA hf]; simp only [M3.tr, show ∀ x, Int.mul x 0 = 0 from Int.mul_zero]; rfl
  have ts : ∀ (f : Nat → Nat → Int) (F : M3), Is3 f F → S3 (fun u => S3 fun v => adj o u v * f u v) = (m3of o).tr F := fun f F hf => (tr_sym hsym).trans (tr_is hA hf)
  have hz2 : ∀ f : Nat → Nat → Int, Is3 f ⟨0, 0, 0, 0, 0, 0, 0, 0, 0⟩ → S3 (fun u => S3 fun v => adj o u v * f u v) = 0 := fun f hf => (tr_sym hsym).trans (hz f hf)
  refine ⟨?_, ?_, ?_, ?_, ?_⟩
  · rw [tra, tr_is hA i3, hz2 _ i1, dg_is i2, a1]
    simp only [M3.dg, show ∀ x, Int.mul x 0 = 0 from Int.mul_zero]
    show 8 * 0 + (m3of o).tr one3 + s * s * 0 + -(2 * s) * 0 = (m3of o).tr one3
    simp
  · rw [tra, tr_is hA i4, hz2 _ i2, dg_is i3, a2]
    show 8 * (s * s) + (m3of o).tr (m3of o) + s * s * 0 + -(2 * s) * _ = 8 * (s * s) + (m3of o).tr (m3of o) - 2 * s * _
    rw [Int.neg_mul]; (first | lia | omega)
  · rw [tra, tr_is hA i5, ts _ _ i3, dg_is i4, a3]
    show 8 * 0 + _ + s * s * _ + -(2 * s) * _ = (m3of o).tr _ + s * s * _ - 2 * s * _
    rw [Int.neg_mul, Int.mul_zero, Int.zero_add]; rfl
  · rw [tra, tr_is hA i6, ts _ _ i4, dg_is i5, a4]
    show 8 * (s * s * (s * s)) + _ + s * s * _ + -(2 * s) * _ = 8 * (s * s * (s * s)) + (m3of o).tr _ + s * s * _ - 2 * s * _
    rw [Int.neg_mul]; rfl
  · rw [tra, tr_is hA i7, ts _ _ i5, dg_is i6]
    have a5 : (al2 s 5).1 = 0 := by simp [al2]
    rw [a5]
    show 8 * 0 + _ + s * s * _ + -(2 * s) * _ = (m3of o).tr _ + s * s * _ - 2 * s * _
    rw [Int.neg_mul, Int.mul_zero, Int.zero_add]; rfl
end
section
noncomputable def hor (q : Int) (c : C8) : Int := c.c0 + q * (c.c1 + q * (c.c2 + q * (c.c3 + q * (c.c4 + q * (c.c5 + q * (c.c6 + q * (c.c7 + q * 1)))))))
theorem ia (a b : Int) : Int.add a b = a + b := rfl
theorem im (a b : Int) : Int.mul a b = a * b := rfl
theorem is (a b : Int) : Int.sub a b = a - b := rfl
theorem ig (a : Int) : Int.neg a = - a := rfl
theorem io2 : Int.ofNat 2 = 2 := rfl
theorem io3 : Int.ofNat 3 = 3 := rfl
theorem io4 : Int.ofNat 4 = 4 := rfl
theorem io5 : Int.ofNat 5 = 5 := rfl
theorem io6 : Int.ofNat 6 = 6 := rfl
theorem io8 : Int.ofNat 8 = 8 := rfl
theorem det_eq (q s a b c e f i x y z : Int) :
    (q * q - s * s) * ((q * q - s * s + s * x - q * a) * ((q * q - s * s + s * y - q * e) * (q * q - s * s + s * z - q * i) - (- (q * f)) * (- (q * f))) - (- (q * b)) * ((- (q * b)) * (q * q - s * s + s * z - q * i) - (- (q * f)) * (- (q * c)))
      + (- (q * c)) * ((- (q * b)) * (- (q * f)) - (q * q - s * s + s * y - q * e) * (- (q * c)))) = hor q (c8of ⟨a, b, c, b, e, f, c, f, i⟩ x y z s) := by
  simp only [c8of, c8of2, c8of3, c8of4, hor, ia, im, is, ig, io2]
  have h1 : s * x = s * (x - s) + s * s := by grind
  have h2 : s * y = s * (y - s) + s * s := by grind
  have h3 : s * z = s * (z - s) + s * s := by grind
  rw [h1, h2, h3]
  generalize s * (x - s) = u0
  generalize s * (y - s) = u1
  generalize s * (z - s) = u2
  generalize s * s = t
  grind
end
section
open PySem PySem.W PySem.Spec PySem.Calls PyProof.Rows
structure Good (c : C8) (p : P5) : Prop where
  n1 : p.p1 + c.c7 = 0
  n2 : p.p2 + c.c7 * p.p1 + 2 * c.c6 = 0
  n3 : p.p3 + c.c7 * p.p2 + c.c6 * p.p1 + 3 * c.c5 = 0
  n4 : p.p4 + c.c7 * p.p3 + c.c6 * p.p2 + c.c5 * p.p1 + 4 * c.c4 = 0
  n5 : p.p5 + c.c7 * p.p4 + c.c6 * p.p3 + c.c5 * p.p2 + c.c4 * p.p1 + 5 * c.c3 = 0
  b0 : c.c0.natAbs ≤ 2 ^ 20
  b1 : c.c1.natAbs ≤ 2 ^ 20
  b2 : c.c2.natAbs ≤ 2 ^ 20
  b3 : c.c3.natAbs ≤ 2 ^ 20
  b4 : c.c4.natAbs ≤ 2 ^ 20
  b5 : c.c5.natAbs ≤ 2 ^ 20
  b6 : c.c6.natAbs ≤ 2 ^ 20
  b7 : c.c7.natAbs ≤ 2 ^ 20
  a1 : p.p1.natAbs ≤ 2 ^ 21
  a2 : p.p2.natAbs ≤ 2 ^ 21
  a3 : p.p3.natAbs ≤ 2 ^ 21
  a4 : p.p4.natAbs ≤ 2 ^ 21
  a5 : p.p5.natAbs ≤ 2 ^ 21
  r7 : (p.p5 * c.c7 + p.p4 * c.c6 + p.p3 * c.c5 + p.p2 * c.c4 + p.p1 * c.c3 + 6 * c.c2).natAbs ≤ 2 ^ 28
theorem isz_of {x : Int} (h : isz x = true) : x = 0 := by
  cases x with
  | ofNat n => have : n = 0 := Nat.eq_of_beq_eq_true h; rw [this]; rfl
  | negSucc n => cases h
theorem low_of {b : Nat} {x : Int} (h : low b x = true) : x.natAbs ≤ b := by
  cases x with
  | ofNat n => exact Nat.le_of_ble_eq_true h
  | negSucc n => exact Nat.le_of_ble_eq_true h
theorem good_of {p : P5} {c : C8} (h : chk1 p c = true) : Good c p := by
  unfold chk1 at h
  simp only [Bool.and_eq_true] at h
  obtain ⟨⟨⟨⟨⟨⟨⟨h1, h2⟩, h3⟩, h4⟩, h5⟩, g⟩, f⟩, r⟩ := h
  obtain ⟨⟨⟨⟨⟨⟨⟨g0, g1⟩, g2⟩, g3⟩, g4⟩, g5⟩, g6⟩, g7⟩ := g
  obtain ⟨⟨⟨⟨f1, f2⟩, f3⟩, f4⟩, f5⟩ := f
  exact ⟨isz_of h1, isz_of h2, isz_of h3, isz_of h4, isz_of h5, low_of g0, low_of g1, low_of g2, low_of g3, low_of g4, low_of g5, low_of g6, low_of g7, low_of f1, low_of f2, low_of f3, low_of f4, low_of f5, low_of r⟩
theorem nabs_le {x : Int} {b : Nat} (h : x.natAbs ≤ b) : - (b : Int) ≤ x ∧ x ≤ (b : Int) :=
  ⟨Int.neg_le_of_neg_le (Int.le_trans (Int.natAbs_neg x ▸ Int.le_natAbs) (Int.ofNat_le.mpr h)), Int.le_trans Int.le_natAbs (Int.ofNat_le.mpr h)⟩
theorem b20 {x : Int} (h : x.natAbs ≤ 2 ^ 20) : - 2 ^ 20 ≤ x ∧ x ≤ 2 ^ 20 := nabs_le h
theorem b28 {x : Int} (h : x.natAbs ≤ 2 ^ 28) : - 2 ^ 28 ≤ x ∧ x ≤ 2 ^ 28 := nabs_le h
theorem sm_add {a b x y : Int} (h : - a ≤ x ∧ x ≤ a) (h' : - b ≤ y ∧ y ≤ b) : - (a + b) ≤ x + y ∧ x + y ≤ a + b := ⟨by rw [Int.neg_add]; exact Int.add_le_add h.1 h'.1, Int.add_le_add h.2 h'.2⟩
theorem sm_neg {a x : Int} (h : - a ≤ x ∧ x ≤ a) : - a ≤ - x ∧ - x ≤ a := ⟨Int.neg_le_neg h.2, Int.neg_le_of_neg_le h.1⟩
theorem sm_le {a b x : Int} (h : - a ≤ x ∧ x ≤ a) (e : a ≤ b) : - b ≤ x ∧ x ≤ b := ⟨Int.le_trans (Int.neg_le_neg e) h.1, Int.le_trans h.2 e⟩
theorem up_step {q r t K : Int} {k : Nat} (hq : 2 ^ 32 ≤ q) (hr : - 2 ^ 44 ≤ r ∧ r ≤ 2 ^ 44) (ht : - (q ^ k * K) ≤ t ∧ t ≤ q ^ k * K) : - (q ^ (k + 1) * (K + 2 ^ 12)) ≤ r + q * t ∧ r + q * t ≤ q ^ (k + 1) * (K + 2 ^ 12) := by
  have h1 : (0 : Int) < q ^ k := Int.pow_pos (by (first | lia | omega))
  have h2 : q * 1 ≤ q * q ^ k := Int.mul_le_mul_of_nonneg_left (by (first | lia | omega)) (by (first | lia | omega))
  have h3 : q * t ≤ q * (q ^ k * K) := Int.mul_le_mul_of_nonneg_left ht.2 (by (first | lia | omega))
  have h4 : q * - (q ^ k * K) ≤ q * t := Int.mul_le_mul_of_nonneg_left ht.1 (by (first | lia | omega))
  have e : q ^ (k + 1) * (K + 2 ^ 12) = q * (q ^ k * K) + 2 ^ 12 * (q * q ^ k) := by rw [Int.pow_succ]; grind
  have e2 : q * - (q ^ k * K) = - (q * (q ^ k * K)) := Int.mul_neg ..
  rw [e]
  (first | lia | omega)
noncomputable def lowP (q : Int) (c : C8) : Int := c.c0 + q * (c.c1 + q * (c.c2 + q * (c.c3 + q * (c.c4 + q * (c.c5 + q * (c.c6 + q * c.c7))))))
theorem lowP_small {q : Int} {c : C8} {p : P5} (g : Good c p) (hq : 2 ^ 32 ≤ q) : - (q ^ 7 * 2 ^ 21) ≤ lowP q c ∧ lowP q c ≤ q ^ 7 * 2 ^ 21 := by
  have h7 : (0 : Int) < q ^ 7 := Int.pow_pos (Int.lt_of_lt_of_le (by decide) hq)
  have t7 : - (q ^ 0 * 2 ^ 20) ≤ c.c7 ∧ c.c7 ≤ q ^ 0 * 2 ^ 20 := by rw [Int.pow_zero, Int.one_mul]; exact b20 g.b7
  have bd {x : Int} (h : x.natAbs ≤ 2 ^ 20) : - 2 ^ 44 ≤ x ∧ x ≤ 2 ^ 44 := sm_le (b20 h) (by decide)
  exact sm_le (up_step hq (bd g.b0) (up_step hq (bd g.b1) (up_step hq (bd g.b2) (up_step hq (bd g.b3) (up_step hq (bd g.b4) (up_step hq (bd g.b5) (up_step hq (bd g.b6) t7)))))))
    (Int.mul_le_mul_of_nonneg_left (by decide) (Int.le_of_lt h7))
theorem hor_low (q : Int) (c : C8) : hor q c = lowP q c + q ^ 8 := by unfold hor lowP; grind
noncomputable def slo (q : Int) (c : C8) : Int := 8 * - c.c0 + q * (7 * - c.c1 + q * (6 * - c.c2 + q * (5 * - c.c3 + q * (4 * - c.c4 + q * (3 * - c.c5 + q * (2 * - c.c6 + q * (1 * - c.c7)))))))
noncomputable def upP (q : Int) (p : P5) : Int := p.p5 + q * (p.p4 + q * (p.p3 + q * (p.p2 + q * p.p1)))
noncomputable def remR (q : Int) (c : C8) (p : P5) : Int :=
  - (p.p5 * c.c0) + q * (- (p.p5 * c.c1 + p.p4 * c.c0) + q * (- (p.p5 * c.c2 + p.p4 * c.c1 + p.p3 * c.c0) + q * (- (p.p5 * c.c3 + p.p4 * c.c2 + p.p3 * c.c1 + p.p2 * c.c0)
    + q * (- (p.p5 * c.c4 + p.p4 * c.c3 + p.p3 * c.c2 + p.p2 * c.c1 + p.p1 * c.c0) + q * (- (p.p5 * c.c5 + p.p4 * c.c4 + p.p3 * c.c3 + p.p2 * c.c2 + p.p1 * c.c1 + 8 * c.c0)
      + q * (- (p.p5 * c.c6 + p.p4 * c.c5 + p.p3 * c.c4 + p.p2 * c.c3 + p.p1 * c.c2 + 7 * c.c1) + q * - (p.p5 * c.c7 + p.p4 * c.c6 + p.p3 * c.c5 + p.p2 * c.c4 + p.p1 * c.c3 + 6 * c.c2)))))))
theorem slo_eq {q : Int} {c : C8} {p : P5} (g : Good c p) : slo q c * q ^ 5 = upP q p * hor q c + remR q c p := by
  obtain ⟨n1, n2, n3, n4, n5, _⟩ := g
  have e : slo q c * q ^ 5 - (upP q p * hor q c + remR q c p) = - (q ^ 12 * (p.p1 + c.c7) + q ^ 11 * (p.p2 + c.c7 * p.p1 + 2 * c.c6) + q ^ 10 * (p.p3 + c.c7 * p.p2 + c.c6 * p.p1 + 3 * c.c5)
      + q ^ 9 * (p.p4 + c.c7 * p.p3 + c.c6 * p.p2 + c.c5 * p.p1 + 4 * c.c4) + q ^ 8 * (p.p5 + c.c7 * p.p4 + c.c6 * p.p3 + c.c5 * p.p2 + c.c4 * p.p1 + 5 * c.c3)) := by
    unfold slo upP hor remR; grind
  rw [n1, n2, n3, n4, n5] at e
  simp only [Int.mul_zero, Int.add_zero, Int.neg_zero] at e
  (first | lia | omega)
theorem mul_small {x y : Int} (hx : x.natAbs ≤ 2 ^ 21) (hy : y.natAbs ≤ 2 ^ 20) : - 2 ^ 41 ≤ x * y ∧ x * y ≤ 2 ^ 41 := by
  have h : (x * y).natAbs ≤ 2 ^ 21 * 2 ^ 20 := by rw [Int.natAbs_mul]; exact Nat.mul_le_mul hx hy
  exact nabs_le h
theorem remR_small {q : Int} {c : C8} {p : P5} (g : Good c p) (hq : 2 ^ 32 ≤ q) : - (q ^ 7 * 2 ^ 29) ≤ remR q c p ∧ remR q c p ≤ q ^ 7 * 2 ^ 29 := by
  have h7 : (0 : Int) < q ^ 7 := Int.pow_pos (Int.lt_of_lt_of_le (by decide) hq)
  have t7 : - (q ^ 0 * 2 ^ 28) ≤ - (p.p5 * c.c7 + p.p4 * c.c6 + p.p3 * c.c5 + p.p2 * c.c4 + p.p1 * c.c3 + 6 * c.c2) ∧ - (p.p5 * c.c7 + p.p4 * c.c6 + p.p3 * c.c5 + p.p2 * c.c4 + p.p1 * c.c3 + 6 * c.c2) ≤ q ^ 0 * 2 ^ 28 := by
    rw [Int.pow_zero, Int.one_mul]; exact sm_neg (b28 g.r7)
  exact sm_le (up_step hq (sm_le (sm_neg (mul_small g.a5 g.b0)) (by decide))
    (up_step hq (sm_le (sm_neg (sm_add (mul_small g.a5 g.b1) (mul_small g.a4 g.b0))) (by decide))
    (up_step hq (sm_le (sm_neg (sm_add (sm_add (mul_small g.a5 g.b2) (mul_small g.a4 g.b1)) (mul_small g.a3 g.b0))) (by decide))
    (up_step hq (sm_le (sm_neg (sm_add (sm_add (sm_add (mul_small g.a5 g.b3) (mul_small g.a4 g.b2)) (mul_small g.a3 g.b1)) (mul_small g.a2 g.b0))) (by decide))
    (up_step hq (sm_le (sm_neg (sm_add (sm_add (sm_add (sm_add (mul_small g.a5 g.b4) (mul_small g.a4 g.b3)) (mul_small g.a3 g.b2)) (mul_small g.a2 g.b1)) (mul_small g.a1 g.b0))) (by decide))
    (up_step hq (sm_le (sm_neg (sm_add (sm_add (sm_add (sm_add (sm_add (mul_small g.a5 g.b5) (mul_small g.a4 g.b4)) (mul_small g.a3 g.b3)) (mul_small g.a2 g.b2)) (mul_small g.a1 g.b1)) (mul_small (x := 8) (by decide) g.b0))) (by decide))
    (up_step hq (sm_le (sm_neg (sm_add (sm_add (sm_add (sm_add (sm_add (mul_small g.a5 g.b6) (mul_small g.a4 g.b5)) (mul_small g.a3 g.b4)) (mul_small g.a2 g.b3)) (mul_small g.a1 g.b2)) (mul_small (x := 7) (by decide) g.b1))) (by decide)) t7)))))))
    (Int.mul_le_mul_of_nonneg_left (by decide) (Int.le_of_lt h7))
theorem told_eq {q dh : Int} {c : C8} {p : P5} (g : Good c p) (hq : 2 ^ 32 ≤ q) : 0 < hor q c ∧ (slo q c * q ^ 5 + hor q c * dh + hor q c / 2) / hor q c = upP q p + dh := by
  have h1 := lowP_small g hq
  have h2 := remR_small g hq
  have h3 : q ^ 8 = q ^ 7 * q := Int.pow_succ ..
  have h7 : (0 : Int) < q ^ 7 := Int.pow_pos (by (first | lia | omega))
  have h4 : q ^ 7 * 2 ^ 32 ≤ q ^ 7 * q := Int.mul_le_mul_of_nonneg_left hq (by (first | lia | omega))
  have hl := hor_low q c
  have hpos : 0 < hor q c := by (first | lia | omega)
  refine ⟨hpos, ?_⟩
  have e : slo q c * q ^ 5 + hor q c * dh + hor q c / 2 = (remR q c p + hor q c / 2) + hor q c * (upP q p + dh) := by
    rw [slo_eq g, Int.mul_add, Int.mul_comm (upP q p)]; (first | lia | omega)
  rw [e, Int.add_mul_ediv_left _ _ (by (first | lia | omega)), Int.ediv_eq_zero_of_lt (by (first | lia | omega)) (by (first | lia | omega)), Int.zero_add]
end
section
open PySem PySem.W PySem.Spec PySem.Calls PyProof.Rows
theorem bits_ge {x : Int} {m : Nat} (h : 2 ^ m ≤ x) : m + 1 ≤ Builtin.Int.intBits x := by
  refine Nat.lt_of_not_le fun h2 => ?_
  have h3 := intBits_le_iff.mp h2
  have e : ((x.natAbs : Nat) : Int) < ((2 ^ m : Nat) : Int) := Int.ofNat_lt.mpr h3
  rw [kbt_cast] at e
  omega
theorem bits_count {x : Int} {n M : Nat} (hn : 1 ≤ n) (h1 : 2 ^ (n * M) ≤ x) (h2 : x < 2 ^ (n * (M + 1))) : (Builtin.Int.intBits x + n - 1) / n = M + 1 := by
  have hp : (0 : Int) < 2 ^ (n * M) := kbt_pos _
  have a1 := bits_ge h1
  have a2 := bits_of (by omega) h2
  rw [Nat.mul_add, Nat.mul_one] at a2
  have e : Builtin.Int.intBits x + n - 1 = (Builtin.Int.intBits x - 1 - n * M) + n * (M + 1) := by rw [Nat.mul_add, Nat.mul_one]; omega
  rw [e, Nat.add_mul_div_left _ _ (by omega), Nat.div_eq_of_lt (by omega), Nat.zero_add]
theorem undig_nn {n : Nat} : ∀ l : List Int, (∀ d ∈ l, 0 ≤ d ∧ d < 2 ^ n) → 0 ≤ undig n l ∧ undig n l < 2 ^ (n * l.length)
  | [], _ => by simp [undig]
  | d :: l, h => by
    have ih := undig_nn l fun x hx => h x (List.mem_cons_of_mem _ hx)
    have hd := h d (List.mem_cons_self ..)
    have hP : (0 : Int) < 2 ^ n := kbt_pos n
    have e : (2 : Int) ^ (n * (d :: l).length) = 2 ^ n * 2 ^ (n * l.length) := by rw [List.length_cons, Nat.mul_add, Nat.mul_one, Nat.add_comm, Int.pow_add]
    have h1 : 0 ≤ 2 ^ n * undig n l := Int.mul_nonneg (by omega) ih.1
    have h2 : 2 ^ n * (undig n l + 1) ≤ 2 ^ n * 2 ^ (n * l.length) := Int.mul_le_mul_of_nonneg_left (by omega) (by omega)
    rw [Int.mul_add, Int.mul_one] at h2
    rw [undig, e]
    omega
theorem dig_undig {n : Nat} : ∀ l : List Int, (∀ d ∈ l, 0 ≤ d ∧ d < 2 ^ n) → dig n l.length (undig n l) = l
  | [], _ => rfl
  | d :: l, h => by
    have hd := h d (List.mem_cons_self ..)
    have hP : (0 : Int) < 2 ^ n := kbt_pos n
    rw [List.length_cons, dig, undig]
    congr 1
    · rw [Int.add_mul_emod_self_left, Int.emod_eq_of_lt hd.1 hd.2]
    · rw [Int.add_mul_ediv_left _ _ (by omega), Int.ediv_eq_zero_of_lt hd.1 hd.2, Int.zero_add, dig_undig l fun x hx => h x (List.mem_cons_of_mem _ hx)]
theorem undig_top {n : Nat} (l : List Int) (t : Int) (h : ∀ d ∈ l, 0 ≤ d ∧ d < 2 ^ n) (h1 : 1 ≤ t) (h2 : t < 2 ^ n) (hn : 1 ≤ n) :
    0 < undig n (l ++ [t]) ∧ (Builtin.Int.intBits (undig n (l ++ [t])) + n - 1) / n = l.length + 1 ∧ dig n (l.length + 1) (undig n (l ++ [t])) = l ++ [t] := by
  have ha : ∀ d ∈ l ++ [t], 0 ≤ d ∧ d < 2 ^ n := fun d hd => by
    rcases List.mem_append.mp hd with hd | hd
    · exact h d hd
    · rw [List.mem_singleton.mp hd]; omega
  have b := undig_nn _ ha
  have b2 := undig_nn _ h
  have hp : (0 : Int) < 2 ^ (n * l.length) := kbt_pos _
  have e : undig n (l ++ [t]) = undig n l + 2 ^ (n * l.length) * t := by rw [undig_append]; simp [undig]
  have h3 : 2 ^ (n * l.length) * 1 ≤ 2 ^ (n * l.length) * t := Int.mul_le_mul_of_nonneg_left h1 (by omega)
  have hlen : (l ++ [t]).length = l.length + 1 := by simp
  refine ⟨by omega, bits_count hn (by omega) (by rw [← hlen]; exact b.2), ?_⟩
  rw [← hlen]
  exact dig_undig _ ha
noncomputable def figL (h : Int) (c : C8) : List Int := [c.c0 + h, c.c1 + h, c.c2 + h, c.c3 + h, c.c4 + h, c.c5 + h, c.c6 + h, c.c7 + h, 1]
noncomputable def toldL (h : Int) (p : P5) : List Int := [p.p5 + h, p.p4 + h, p.p3 + h, p.p2 + h, p.p1 + h]
noncomputable def slopeL (h : Int) (c : C8) : List Int := [(8 - 0) * (h - (c.c0 + h)), (8 - 1) * (h - (c.c1 + h)), (8 - 2) * (h - (c.c2 + h)), (8 - 3) * (h - (c.c3 + h)), (8 - 4) * (h - (c.c4 + h)), (8 - 5) * (h - (c.c5 + h)), (8 - 6) * (h - (c.c6 + h)), (8 - 7) * (h - (c.c7 + h)), (8 - 8) * (h - 1)]
section
variable {n : Nat} {c : C8} {p : P5} {h : Int}
theorem fig_all (g : Good c p) (hn : 32 ≤ n) (hh : 2 ^ n = 2 * h) : 2 ^ 31 ≤ h ∧ 0 < undig n (figL h c) ∧ (Builtin.Int.intBits (undig n (figL h c)) + n - 1) / n = 9 ∧ dig n 9 (undig n (figL h c)) = figL h c := by
  have hq : (2 : Int) ^ 32 ≤ 2 ^ n := pow_mono hn
  have s0 := nabs_le g.b0
  have s1 := nabs_le g.b1
  have s2 := nabs_le g.b2
  have s3 := nabs_le g.b3
  have s4 := nabs_le g.b4
  have s5 := nabs_le g.b5
  have s6 := nabs_le g.b6
  have s7 := nabs_le g.b7
  refine ⟨by omega, ?_⟩
  exact undig_top (n := n) [c.c0 + h, c.c1 + h, c.c2 + h, c.c3 + h, c.c4 + h, c.c5 + h, c.c6 + h, c.c7 + h] 1 (fun d hd => by
    simp only [List.mem_cons, List.not_mem_nil, or_false] at hd
    rcases hd with rfl | rfl | rfl | rfl | rfl | rfl | rfl | rfl <;> omega) (by omega) (by omega) (by omega)
theorem fig_eq : undig n (figL h c) = hor (2 ^ n) c + undig n [h, h, h, h, h, h, h, h] := by
  simp only [figL, undig, hor]
  generalize (2 : Int) ^ n = q
  grind
theorem slope_eq : undig n (slopeL h c) = slo (2 ^ n) c := by
  simp only [slopeL, undig, slo]
  generalize (2 : Int) ^ n = q
  grind
theorem told_all (g : Good c p) (hn : 32 ≤ n) (hh : 2 ^ n = 2 * h) : 0 < undig n (toldL h p) ∧ (Builtin.Int.intBits (undig n (toldL h p)) + n - 1) / n = 5 ∧ dig n 5 (undig n (toldL h p)) = toldL h p ∧ undig n (toldL h p) < 2 ^ (n * 5) := by
  have hq : (2 : Int) ^ 32 ≤ 2 ^ n := pow_mono hn
  have s1 := nabs_le g.a1
  have s2 := nabs_le g.a2
  have s3 := nabs_le g.a3
  have s4 := nabs_le g.a4
  have s5 := nabs_le g.a5
  obtain ⟨x1, x2, x3⟩ := undig_top (n := n) [p.p5 + h, p.p4 + h, p.p3 + h, p.p2 + h] (p.p1 + h) (fun d hd => by
    simp only [List.mem_cons, List.not_mem_nil, or_false] at hd
    rcases hd with rfl | rfl | rfl | rfl <;> omega) (by omega) (by omega) (by omega)
  refine ⟨x1, x2, x3, (undig_nn (toldL h p) (fun d hd => ?_)).2⟩
  simp only [toldL, List.mem_cons, List.not_mem_nil, or_false] at hd
  rcases hd with rfl | rfl | rfl | rfl | rfl <;> omega
theorem told_is (g : Good c p) (hn : 32 ≤ n) : 0 < hor (2 ^ n) c ∧ (undig n (slopeL h c) * (2 ^ n) ^ 5 + hor (2 ^ n) c * undig n [h, h, h, h, h] + hor (2 ^ n) c / 2) / hor (2 ^ n) c = undig n (toldL h p) := by
  have t := told_eq (dh := undig n [h, h, h, h, h]) g (pow_mono hn : (2 : Int) ^ 32 ≤ 2 ^ n)
  refine ⟨t.1, ?_⟩
  rw [slope_eq, t.2]
  simp only [toldL, undig, upP]
  generalize (2 : Int) ^ n = q
  grind
theorem hor_bits (g : Good c p) (hn : 32 ≤ n) (hn2 : n ≤ 1000) : 8 * n ≤ Builtin.Int.intBits (hor (2 ^ n) c) ∧ Builtin.Int.intBits (hor (2 ^ n) c) ≤ 9000 ∧ hor (2 ^ n) c < 2 ^ (n * 8 + 1) := by
  have hq : (2 : Int) ^ 32 ≤ 2 ^ n := pow_mono hn
  have h1 := lowP_small g hq
  have h3 : ((2 : Int) ^ n) ^ 8 = (2 ^ n) ^ 7 * 2 ^ n := Int.pow_succ ..
  have h7 : (0 : Int) < (2 ^ n) ^ 7 := Int.pow_pos (by omega)
  have h4 : ((2 : Int) ^ n) ^ 7 * 2 ^ 32 ≤ (2 ^ n) ^ 7 * 2 ^ n := Int.mul_le_mul_of_nonneg_left hq (by omega)
  have hl := hor_low (2 ^ n) c
  have e8 : ((2 : Int) ^ n) ^ 8 = 2 ^ (n * 8) := by rw [Int.pow_mul]
  have e9 : (2 : Int) ^ (n * 8 + 1) = 2 ^ (n * 8) * 2 := Int.pow_succ ..
  have u : hor (2 ^ n) c < 2 ^ (n * 8 + 1) := by omega
  have e7 : (2 : Int) ^ (n * 8) = 2 ^ (n * 8 - 1) * 2 := by
    have : n * 8 = (n * 8 - 1) + 1 := by omega
    conv => lhs; rw [this, Int.pow_succ]
  have b := bits_ge (m := n * 8 - 1) (x := hor (2 ^ n) c) (by omega)
  have b2 := bits_of (m := n * 8 + 1) (x := hor (2 ^ n) c) (by omega) u
  exact ⟨by omega, by omega, u⟩
end
end
section
open PySem PySem.W PySem.Spec PySem.Calls PyProof.Rows
theorem count_ok {A B : Nat} (hB : 1 ≤ B) (hA : 1 ≤ A) (h : A ≤ 60 * B) : 1 ≤ (A + B - 1) / B ∧ (A + B - 1) / B ≤ 64 := by
  constructor
  · exact (Nat.le_div_iff_mul_le (by (first | lia | omega))).mpr (by (first | lia | omega))
  · refine Nat.le_of_lt_succ ((Nat.div_lt_iff_lt_mul (by (first | lia | omega))).mpr ?_)
    (first | lia | omega)
section
variable {n : Nat} {c : C8} {p : P5} {h : Int}
noncomputable def wholeOf (n : Nat) (h : Int) (c : C8) : Int := undig n (slopeL h c) * (2 ^ n) ^ 5 + hor (2 ^ n) c * undig n [h, h, h, h, h] + hor (2 ^ n) c / 2
theorem whole_ok (g : Good c p) (hn : 32 ≤ n) (hn2 : n ≤ 1000) (hh : 2 ^ n = 2 * h) : 0 < wholeOf n h c ∧ wholeOf n h c / hor (2 ^ n) c = undig n (toldL h p) ∧
    1 ≤ (Builtin.Int.intBits (wholeOf n h c) + Builtin.Int.intBits (hor (2 ^ n) c) - 1) / Builtin.Int.intBits (hor (2 ^ n) c) ∧ (Builtin.Int.intBits (wholeOf n h c) + Builtin.Int.intBits (hor (2 ^ n) c) - 1) / Builtin.Int.intBits (hor (2 ^ n) c) ≤ 64 := by
  obtain ⟨t1, t2⟩ := told_is (h := h) g hn
  obtain ⟨b1, b2, b3⟩ := hor_bits g hn hn2
  obtain ⟨u1, u2, u3, u4⟩ := told_all (h := h) g hn hh
  have t2' : wholeOf n h c / hor (2 ^ n) c = undig n (toldL h p) := t2
  have e := Int.mul_ediv_add_emod (wholeOf n h c) (hor (2 ^ n) c)
  have r0 := Int.emod_nonneg (wholeOf n h c) (b := hor (2 ^ n) c) (by (first | lia | omega))
  have r1 := Int.emod_lt_of_pos (wholeOf n h c) t1
  rw [t2'] at e
  have m1 : hor (2 ^ n) c * 1 ≤ hor (2 ^ n) c * undig n (toldL h p) := Int.mul_le_mul_of_nonneg_left (by (first | lia | omega)) (by (first | lia | omega))
  have pos : 0 < wholeOf n h c := by (first | lia | omega)
  have m2 : hor (2 ^ n) c * (undig n (toldL h p) + 1) ≤ hor (2 ^ n) c * 2 ^ (n * 5) := Int.mul_le_mul_of_nonneg_left (by (first | lia | omega)) (by (first | lia | omega))
  have hp5 : (0 : Int) < 2 ^ (n * 5) := kbt_pos _
  have m3 : hor (2 ^ n) c * 2 ^ (n * 5) ≤ 2 ^ (n * 8 + 1) * 2 ^ (n * 5) := Int.mul_le_mul_of_nonneg_right (by (first | lia | omega)) (by (first | lia | omega))
  rw [← Int.pow_add] at m3
  rw [Int.mul_add, Int.mul_one] at m2
  have bw := bits_of (m := n * 8 + 1 + n * 5) (x := wholeOf n h c) (by (first | lia | omega)) (by (first | lia | omega))
  have bw1 := bits_ge (m := 0) (x := wholeOf n h c) (by rw [Int.pow_zero]; (first | lia | omega))
  exact ⟨pos, t2', count_ok (by (first | lia | omega)) (by (first | lia | omega)) (by (first | lia | omega))⟩
theorem hard_ok (hn : 32 ≤ n) (hn2 : n ≤ 1000) {H T : Int} (hH : H = (2 ^ n) ^ 8 + (2 ^ n) ^ 4 - 1) (hT : T = 2 * (2 ^ n) ^ 15 - (2 ^ n) ^ 4 / 2) :
    0 < H ∧ 0 < T * H + H - 1 ∧ Builtin.Int.intBits H ≤ 9000 ∧ (T * H + H - 1) / H = T ∧ (T * H + H - 1) % H = H - 1 ∧
    1 ≤ (Builtin.Int.intBits (T * H + H - 1) + Builtin.Int.intBits H - 1) / Builtin.Int.intBits H ∧ (Builtin.Int.intBits (T * H + H - 1) + Builtin.Int.intBits H - 1) / Builtin.Int.intBits H ≤ 64 := by
  have hq : (2 : Int) ^ 32 ≤ 2 ^ n := pow_mono hn
  have e8 : ((2 : Int) ^ n) ^ 8 = 2 ^ (n * 8) := by rw [Int.pow_mul]
  have e4 : ((2 : Int) ^ n) ^ 4 = 2 ^ (n * 4) := by rw [Int.pow_mul]
  have e15 : ((2 : Int) ^ n) ^ 15 = 2 ^ (n * 15) := by rw [Int.pow_mul]
  have p4 : (2 : Int) ^ 128 ≤ 2 ^ (n * 4) := pow_mono (by (first | lia | omega))
  have p48 : (2 : Int) ^ (n * 4) ≤ 2 ^ (n * 8) := pow_mono (by (first | lia | omega))
  have p415 : (2 : Int) ^ (n * 4) ≤ 2 ^ (n * 15) := pow_mono (by (first | lia | omega))
  rw [e8, e4] at hH
  rw [e15, e4] at hT
  have e81 : (2 : Int) ^ (n * 8 + 1) = 2 ^ (n * 8) * 2 := Int.pow_succ ..
  have e151 : (2 : Int) ^ (n * 15 + 1) = 2 ^ (n * 15) * 2 := Int.pow_succ ..
  have H0 : 0 < H := by (first | lia | omega)
  have T0 : 0 ≤ T := by (first | lia | omega)
  have HB : H < 2 ^ (n * 8 + 1) := by (first | lia | omega)
  have TB : T < 2 ^ (n * 15 + 1) := by (first | lia | omega)
  have hTH : 0 ≤ T * H := Int.mul_nonneg T0 (by (first | lia | omega))
  have HT2 : (T + 1) * H ≤ 2 ^ (n * 15 + 1) * H := Int.mul_le_mul_of_nonneg_right (by (first | lia | omega)) (by (first | lia | omega))
  have HT3 : 2 ^ (n * 15 + 1) * H ≤ 2 ^ (n * 15 + 1) * 2 ^ (n * 8 + 1) := Int.mul_le_mul_of_nonneg_left (by (first | lia | omega)) (Int.le_of_lt (kbt_pos _))
  rw [← Int.pow_add] at HT3
  rw [Int.add_mul, Int.one_mul] at HT2
  have a0 : 0 < T * H + H - 1 := by (first | lia | omega)
  have bH := bits_of (Int.le_of_lt H0) HB
  have bH1 := bits_ge (m := n * 8) (x := H) (by (first | lia | omega))
  have ba := bits_of (m := n * 15 + 1 + (n * 8 + 1)) (x := T * H + H - 1) (by (first | lia | omega)) (by (first | lia | omega))
  have ba1 := bits_ge (m := 0) (x := T * H + H - 1) (by rw [Int.pow_zero]; (first | lia | omega))
  have ea : T * H + H - 1 = (H - 1) + H * T := by rw [Int.mul_comm T]; (first | lia | omega)
  refine ⟨H0, a0, by (first | lia | omega), ?_, ?_, count_ok (by (first | lia | omega)) (by (first | lia | omega)) (by (first | lia | omega))⟩
  · rw [ea, Int.add_mul_ediv_left _ _ (by (first | lia | omega)), Int.ediv_eq_zero_of_lt (by (first | lia | omega)) (by (first | lia | omega)), Int.zero_add]
  · rw [ea, Int.add_mul_emod_self_left, Int.emod_eq_of_lt (by (first | lia | omega)) (by (first | lia | omega))]
end
noncomputable def town (l : List (Int × Int)) (i : Nat) : Nat := if i % 2 = 0 then (l.getD (i / 2) (0, 0)).1.toNat else (l.getD (i / 2) (0, 0)).2.toNat
noncomputable def dl (q s : Int) (p : Int × Int) (u v : Nat) : Int := (if p.1 = u ∧ u = v then s else 0) + (if p.2 = u ∧ u = v then s else 0) + (if p.1 = u ∧ p.2 = v then - q else 0) + (if p.2 = u ∧ p.1 = v then - q else 0)
noncomputable def ent (q s : Int) (l : List (Int × Int)) (u v : Nat) : Int := (if u = v then q * q - s * s else 0) + (l.map fun p => dl q s p u v).sum
theorem ent_snoc (q s : Int) (l : List (Int × Int)) (p : Int × Int) (u v : Nat) : ent q s (l ++ [p]) u v = ent q s l u v + dl q s p u v := by
  simp [ent, Int.add_assoc]
noncomputable def In3 (l : List (Int × Int)) : Prop := ∀ p ∈ l, 0 ≤ p.1 ∧ p.1 < 3 ∧ 0 ≤ p.2 ∧ p.2 < 3
theorem town_lt {l : List (Int × Int)} (h : In3 l) (i : Nat) : town l i < 3 := by
  have e : ∀ k, 0 ≤ (l.getD k (0, 0)).1 ∧ (l.getD k (0, 0)).1 < 3 ∧ 0 ≤ (l.getD k (0, 0)).2 ∧ (l.getD k (0, 0)).2 < 3 := fun k => by
    rcases Nat.lt_or_ge k l.length with hk | hk
    · rw [List.getD_eq_getElem?_getD, List.getElem?_eq_getElem hk]; exact h _ (List.getElem_mem hk)
    · rw [List.getD_eq_getElem?_getD, List.getElem?_eq_none hk]; decide
  unfold town
  split <;> have := e (i / 2) <;> (first | lia | omega)
theorem pkA {a u v : Nat} {s : Int} : (if a = u ∧ u = v then s else 0) = if u = v then s * (if a = u then 1 else 0) else 0 := by
  by_cases h : u = v
  · subst h; by_cases h2 : a = u <;> simp [h2]
  · simp [h]
theorem pkB {P : Prop} [Decidable P] {q : Int} : (if P then -q else 0) = -(q * (if P then 1 else 0)) := by
  by_cases h : P <;> simp [h]
theorem pkC {P : Prop} [Decidable P] {A B : Int} : (if P then A else 0) + (if P then B else 0) = if P then A + B else 0 := by
  by_cases h : P <;> simp [h]
theorem ent_is {q s : Int} {l : List (Int × Int)} (h : In3 l) (hl : l.length = 4) (u v : Nat) :
    ent q s l u v = (if u = v then q * q - s * s + s * deg (town l) u else 0) - q * adj (town l) u v := by
  obtain ⟨⟨n0, f0⟩, ⟨n1, f1⟩, ⟨n2, f2⟩, ⟨n3, f3⟩, rfl⟩ : ∃ a b c d, l = [a, b, c, d] := by
    match l, hl with
    | [a, b, c, d], _ => exact ⟨a, b, c, d, rfl⟩
  have g0 := h (n0, f0) (by simp)
  have g1 := h (n1, f1) (by simp)
  have g2 := h (n2, f2) (by simp)
  have g3 := h (n3, f3) (by simp)
  dsimp only at g0 g1 g2 g3
  obtain ⟨a0, rfl⟩ := Int.eq_ofNat_of_zero_le g0.1
  obtain ⟨a1, rfl⟩ := Int.eq_ofNat_of_zero_le g1.1
  obtain ⟨a2, rfl⟩ := Int.eq_ofNat_of_zero_le g2.1
  obtain ⟨a3, rfl⟩ := Int.eq_ofNat_of_zero_le g3.1
  obtain ⟨b0, rfl⟩ := Int.eq_ofNat_of_zero_le g0.2.2.1
  obtain ⟨b1, rfl⟩ := Int.eq_ofNat_of_zero_le g1.2.2.1
  obtain ⟨b2, rfl⟩ := Int.eq_ofNat_of_zero_le g2.2.2.1
  obtain ⟨b3, rfl⟩ := Int.eq_ofNat_of_zero_le g3.2.2.1
  have t0 : town [((a0 : Int), (b0 : Int)), (a1, b1), (a2, b2), (a3, b3)] 0 = a0 := by simp [town]
  have t1 : town [((a0 : Int), (b0 : Int)), (a1, b1), (a2, b2), (a3, b3)] 1 = b0 := by simp [town]
  have t2 : town [((a0 : Int), (b0 : Int)), (a1, b1), (a2, b2), (a3, b3)] 2 = a1 := by simp [town]
  have t3 : town [((a0 : Int), (b0 : Int)), (a1, b1), (a2, b2), (a3, b3)] 3 = b1 := by simp [town]
  have t4 : town [((a0 : Int), (b0 : Int)), (a1, b1), (a2, b2), (a3, b3)] 4 = a2 := by simp [town]
  have t5 : town [((a0 : Int), (b0 : Int)), (a1, b1), (a2, b2), (a3, b3)] 5 = b2 := by simp [town]
  have t6 : town [((a0 : Int), (b0 : Int)), (a1, b1), (a2, b2), (a3, b3)] 6 = a3 := by simp [town]
  have t7 : town [((a0 : Int), (b0 : Int)), (a1, b1), (a2, b2), (a3, b3)] 7 = b3 := by simp [town]
  have pp : par 0 = 1 ∧ par 1 = 0 ∧ par 2 = 3 ∧ par 3 = 2 ∧ par 4 = 5 ∧ par 5 = 4 ∧ par 6 = 7 ∧ par 7 = 6 := ⟨rfl, rfl, rfl, rfl, rfl, rfl, rfl, rfl⟩
  have d1 : ∀ a b : Nat, dl q s ((a : Int), (b : Int)) u v = (if u = v then s * ((if a = u then 1 else 0) + (if b = u then 1 else 0)) else 0) - q * ((if a = u ∧ b = v then 1 else 0) + (if b = u ∧ a = v then 1 else 0)) := fun a b => by
    unfold dl
    simp only [Int.natCast_inj]
    rw [pkA, pkA, pkB, pkB, pkC, ← Int.mul_add, Int.mul_add q, Int.sub_eq_add_neg, Int.neg_add, Int.add_assoc]
  simp only [ent, List.map_cons, List.map_nil, List.sum_cons, List.sum_nil, d1, deg, adj, S8, pp, t0, t1, t2, t3, t4, t5, t6, t7]
  by_cases h1 : u = v
  · simp only [h1, if_true]; grind
  · simp only [h1, if_false]; grind
theorem adj_sym {o : Nat → Nat} (ho : ∀ i, i < 8 → o i < 3) {u v : Nat} (hu : u < 3) (hv : v < 3) : adj o u v = adj o v u := by
  rw [adj_cnt ho hu hv, adj_cnt ho hv hu, cnt_sym]
  by_cases h : u = v
  · subst h; rfl
  · rw [if_neg h, if_neg (fun e => h e.symm)]
noncomputable abbrev c8P (l : List (Int × Int)) (s : Int) : C8 := c8of (m3of (town l)) (deg (town l) 0) (deg (town l) 1) (deg (town l) 2) s
noncomputable abbrev p5P (l : List (Int × Int)) (s : Int) : P5 := p5of (m3of (town l)) (deg (town l) 0) (deg (town l) 1) (deg (town l) 2) s
theorem goodP {l : List (Int × Int)} (h : In3 l) {s : Int} (h1 : -3 ≤ s) (h2 : s ≤ 4) : Good (c8P l s) (p5P l s) := good_of (chk_of (fun i _ => town_lt h i) h1 h2)
theorem div_is {q s : Int} {l : List (Int × Int)} (h : In3 l) (hl : l.length = 4) :
    (q * q - s * s) * (ent q s l 0 0 * (ent q s l 1 1 * ent q s l 2 2 - ent q s l 1 2 * ent q s l 2 1) - ent q s l 0 1 * (ent q s l 1 0 * ent q s l 2 2 - ent q s l 1 2 * ent q s l 2 0)
      + ent q s l 0 2 * (ent q s l 1 0 * ent q s l 2 1 - ent q s l 1 1 * ent q s l 2 0)) = hor q (c8P l s) := by
  have ho : ∀ i, i < 8 → town l i < 3 := fun i _ => town_lt h i
  have e := det_eq q s (adj (town l) 0 0) (adj (town l) 0 1) (adj (town l) 0 2) (adj (town l) 1 1) (adj (town l) 1 2) (adj (town l) 2 2) (deg (town l) 0) (deg (town l) 1) (deg (town l) 2)
  have em : m3of (town l) = ⟨adj (town l) 0 0, adj (town l) 0 1, adj (town l) 0 2, adj (town l) 0 1, adj (town l) 1 1, adj (town l) 1 2, adj (town l) 0 2, adj (town l) 1 2, adj (town l) 2 2⟩ := by
    rw [m3of, adj_sym ho (u := 1) (v := 0) (by decide) (by decide), adj_sym ho (u := 2) (v := 0) (by decide) (by decide), adj_sym ho (u := 2) (v := 1) (by decide) (by decide)]
  rw [c8P, em, ← e]
  simp only [ent_is h hl, adj_sym ho (u := 1) (v := 0) (by decide) (by decide), adj_sym ho (u := 2) (v := 0) (by decide) (by decide), adj_sym ho (u := 2) (v := 1) (by decide) (by decide)]
  simp only [if_true, show ¬ (0 = 1) by decide, show ¬ (0 = 2) by decide, show ¬ (1 = 0) by decide, show ¬ (1 = 2) by decide, show ¬ (2 = 0) by decide, show ¬ (2 = 1) by decide, if_false, Int.zero_sub]
end
section
open PySem PySem.W PySem.Spec PySem.Calls PyProof.Rows
structure PE where
  a : Addr
  n : Int
  tn : Tok
  f : Int
  tf : Tok
noncomputable abbrev PE.obj (e : PE) : Addr × Obj := (e.a, tupO [.int e.n e.tn, .int e.f e.tf])
noncomputable abbrev PE.ref (e : PE) : Value := .ref e.a
noncomputable abbrev PE.nf (e : PE) : Int × Int := (e.n, e.f)
theorem ib_hyp {x : Int} {j k : Nat} (h : Builtin.Int.intBits x ≤ j) (e : Nat.ble j k = true) : Builtin.Int.intBits x ≤ k := Nat.le_trans h (Nat.le_of_ble_eq_true e)
theorem ib_add' {x y : Int} {k : Nat} (e : Nat.ble 2 k = true) (hx : Builtin.Int.intBits x ≤ k / 2) (hy : Builtin.Int.intBits y ≤ k / 2) : Builtin.Int.intBits (x + y) ≤ k := ib_add hx hy (Nat.le_of_ble_eq_true e)
theorem ib_sub' {x y : Int} {k : Nat} (e : Nat.ble 2 k = true) (hx : Builtin.Int.intBits x ≤ k / 2) (hy : Builtin.Int.intBits y ≤ k / 2) : Builtin.Int.intBits (x - y) ≤ k := ib_sub hx hy (Nat.le_of_ble_eq_true e)
theorem pow_sz {a n : Int} {A K : Nat} (h : Builtin.Int.intBits a ≤ A) (h2 : n.toNat ≤ K) (h0 : 0 ≤ n) (e : Nat.ble (A * K) 134217728 = true) : (Builtin.Int.intBits a : Int) * n ≤ 2 ^ 27 := by
  have e2 := Nat.le_of_ble_eq_true e
  have h3 : Builtin.Int.intBits a * n.toNat ≤ A * K := Nat.mul_le_mul h h2
  have h4 : (n.toNat : Int) = n := Int.toNat_of_nonneg h0
  have h5 : ((Builtin.Int.intBits a * n.toNat : Nat) : Int) ≤ 134217728 := Int.ofNat_le.mpr (Nat.le_trans h3 e2)
  rw [Int.natCast_mul, h4] at h5
  exact h5
theorem powX {w : World} {prog : Program} {A : Around} {a n : Int} {t u : Tok} {E Q : Value → Shared → Prop} {s : Shared} (hn : 0 ≤ n) (ha : Builtin.Int.intBits a ≤ 1001) (h2 : n.toNat ≤ 20) (h : Q (.int (a ^ n.toNat) s.toks) { s with toks := s.toks + 1 }) : wpAny (model prog w) A (binaryOp .Pow (.int a t) (.int n u)) Q E s :=
  pow_int hn (pow_sz ha h2 hn rfl) h
theorem dl_bits {q s : Int} (hq : Builtin.Int.intBits q ≤ 1001) (hs : Builtin.Int.intBits s ≤ 64) (p : Int × Int) (u v : Nat) : Builtin.Int.intBits (dl q s p u v) ≤ 1010 := by
  have z : Builtin.Int.intBits 0 ≤ 1001 := by decide
  have h1 : ∀ (c : Prop) [Decidable c], Builtin.Int.intBits (if c then s else 0) ≤ 1001 := fun c _ => by split <;> (first | lia | omega)
  have h2 : ∀ (c : Prop) [Decidable c], Builtin.Int.intBits (if c then - q else 0) ≤ 1001 := fun c _ => by
    split
    · have e : Builtin.Int.intBits (- q) = Builtin.Int.intBits q := by unfold Builtin.Int.intBits; simp
      (first | lia | omega)
    · exact z
  unfold dl
  refine Nat.le_trans (intBits_add_le (intBits_add_le (intBits_add_le (h1 _) (h1 _)) (h2 _)) (h2 _)) (by decide)
theorem dls_bits {q s : Int} (hq : Builtin.Int.intBits q ≤ 1001) (hs : Builtin.Int.intBits s ≤ 64) (u v : Nat) : ∀ l : List (Int × Int), Builtin.Int.intBits ((l.map fun p => dl q s p u v).sum) ≤ 1010 + l.length
  | [] => by simp [Builtin.Int.intBits]
  | p :: l => by
    have h1 := dl_bits hq hs p u v
    have h2 := dls_bits hq hs u v l
    rw [List.map_cons, List.sum_cons, List.length_cons]
    exact Nat.le_trans (intBits_add_le h1 h2) (by (first | lia | omega))
theorem ent_bits {q s : Int} (hq : Builtin.Int.intBits q ≤ 1001) (hs : Builtin.Int.intBits s ≤ 64) {l : List (Int × Int)} (hl : l.length = 4) (u v : Nat) : Builtin.Int.intBits (ent q s l u v) ≤ 2200 := by
  have h1 := dls_bits hq hs u v l
  have h2 : Builtin.Int.intBits (if u = v then q * q - s * s else 0) ≤ 2100 := by
    split
    · exact Nat.le_trans (intBits_sub_le (intBits_mul_le hq hq) (intBits_mul_le hs hs)) (by decide)
    · decide
  unfold ent
  exact Nat.le_trans (intBits_add_le h2 h1) (by (first | lia | omega))
theorem intsC {v : List Value} {a : Int} {l : List Int} (h : IntsAre v (a :: l)) : ∃ t w, v = .int a t :: w ∧ IntsAre w l := by cases h; exact ⟨_, _, rfl, by assumption⟩
theorem intsN {v : List Value} (h : IntsAre v []) : v = [] := by cases h; rfl
inductive I9 (a0 a1 a2 a3 a4 a5 a6 a7 a8 : Int) (v : List Value) : Prop
  | mk (t0 t1 t2 t3 t4 t5 t6 t7 t8 : Tok) (e : v = [.int a0 t0, .int a1 t1, .int a2 t2, .int a3 t3, .int a4 t4, .int a5 t5, .int a6 t6, .int a7 t7, .int a8 t8])
theorem ints9 {a0 a1 a2 a3 a4 a5 a6 a7 a8 : Int} {v : List Value} (h : IntsAre v [a0, a1, a2, a3, a4, a5, a6, a7, a8]) : I9 a0 a1 a2 a3 a4 a5 a6 a7 a8 v := by
  obtain ⟨t0, v0, e0, h0⟩ := intsC h
  obtain ⟨t1, v1, e1, h1⟩ := intsC h0
  obtain ⟨t2, v2, e2, h2⟩ := intsC h1
  obtain ⟨t3, v3, e3, h3⟩ := intsC h2
  obtain ⟨t4, v4, e4, h4⟩ := intsC h3
  obtain ⟨t5, v5, e5, h5⟩ := intsC h4
  obtain ⟨t6, v6, e6, h6⟩ := intsC h5
  obtain ⟨t7, v7, e7, h7⟩ := intsC h6
  obtain ⟨t8, v8, e8, h8⟩ := intsC h7
  obtain e9 := intsN h8
  exact ⟨t0, t1, t2, t3, t4, t5, t6, t7, t8, by rw [e0, e1, e2, e3, e4, e5, e6, e7, e8, e9]⟩
section
open PyProof.Rows.LCg
variable {w : World} {prog : Program} {A : Around} {s : Shared} {h₀ : Heap} {L : Addr} {m : PySem.Str → Option Value} {env : Env} {elt : Expr} {x : PySem.Str} {scope : Scope} {cl : List (PySem.Str × Addr)} {S : Led → Prop} {P : Nat → Value → Prop} {Fin : List Value → Led → Prop} {n : Nat}
theorem comp_ind (Inv : Nat → List Value → Led → Prop) (h0 : ∀ ys news, Inv n ys news → Fin ys news)
    (h1 : ∀ i ys news, i < n → Inv i ys news → ∀ v I oI C oC D m₂ h tk (E' : Value → Shared → Prop), P i v → NsObj oC m₂ → m₂ x = some v → Fr h₀ L h m → News h₀ L h ((I, oI) :: (C, oC) :: (D, lst ys) :: news) → Off3 I C D news → ((@Ne Nat I C) ∧ (@Ne Nat I D) ∧ (@Ne Nat C D)) →
      wpAny (model prog w) A (eval elt (compEnvC scope cl C env)) (CompEnd h₀ L m { s with heap := h, toks := tk } I oI C oC D (lst ys) S (fun y news' => Inv (i + 1) (ys ++ [y]) news')) E' { s with heap := h, toks := tk }) :
    ∀ k i ys news, i + k = n → Inv i ys news → CompRest prog w A h₀ L m env elt x scope cl s S P Fin k i ys news
  | 0, i, ys, news, e, hi => h0 ys news (by rw [← e]; exact hi)
  | k + 1, i, ys, news, e, hi => fun v I oI C oC D m₂ h tk E' hP hC hx F N off ne => by
    refine wpAny_mono (h1 i ys news (by (first | lia | omega)) hi v I oI C oC D m₂ h tk E' hP hC hx F N off ne) (fun y s2 h3 => ?_) fun _ _ e => e
    obtain ⟨h', tk', news', e1, F', N', off', hS, hI⟩ := h3
    exact ⟨h', tk', news', e1, F', N', off', hS, comp_ind Inv h0 h1 k (i + 1) _ _ (by (first | lia | omega)) hI⟩
end
theorem slope_snoc (h : Int) (c : C8) {i : Nat} (hi : i < 9) : (slopeL h c).take (i + 1) = (slopeL h c).take i ++ [(8 - (0 + (i : Int))) * (h - (figL h c).getD (0 + (i : Int)).toNat 0)] := by
  rcases (by (first | lia | omega) : i = 0 ∨ i = 1 ∨ i = 2 ∨ i = 3 ∨ i = 4 ∨ i = 5 ∨ i = 6 ∨ i = 7 ∨ i = 8) with rfl | rfl | rfl | rfl | rfl | rfl | rfl | rfl | rfl <;> rfl
theorem figL_bits {n : Nat} {h : Int} {c : C8} {p : P5} (g : Good c p) (hn : 32 ≤ n) (hn2 : n ≤ 1000) (hh : 2 ^ n = 2 * h) (k : Nat) : Builtin.Int.intBits ((figL h c).getD k 0) ≤ 20000 := by
  have hq : (2 : Int) ^ 32 ≤ 2 ^ n := pow_mono hn
  have s0 := nabs_le g.b0
  have s1 := nabs_le g.b1
  have s2 := nabs_le g.b2
  have s3 := nabs_le g.b3
  have s4 := nabs_le g.b4
  have s5 := nabs_le g.b5
  have s6 := nabs_le g.b6
  have s7 := nabs_le g.b7
  have h2 : ∀ x : Int, 0 ≤ x → x < 2 ^ n → Builtin.Int.intBits x ≤ 20000 := fun x a b => Nat.le_trans (bits_of a b) (by (first | lia | omega))
  have hz : Builtin.Int.intBits 0 ≤ 20000 := by decide
  rcases Nat.lt_or_ge k 9 with hk | hk
  · rcases (by (first | lia | omega) : k = 0 ∨ k = 1 ∨ k = 2 ∨ k = 3 ∨ k = 4 ∨ k = 5 ∨ k = 6 ∨ k = 7 ∨ k = 8) with rfl | rfl | rfl | rfl | rfl | rfl | rfl | rfl | rfl <;> exact h2 _ (by simp only [figL, List.getD_cons_zero, List.getD_cons_succ]; (first | lia | omega)) (by simp only [figL, List.getD_cons_zero, List.getD_cons_succ]; (first | lia | omega))
  · have e : (figL h c).getD k 0 = 0 := by rw [List.getD_eq_getElem?_getD, List.getElem?_eq_none (by simp [figL]; (first | lia | omega))]; rfl
    rw [e]; exact hz
theorem pow_bits {q : Int} {n : Nat} (hq : q = 2 ^ n) (hn : n ≤ 1000) (k : Nat) : Builtin.Int.intBits (q ^ k) ≤ 1000 * k + 1 := by
  have e : q ^ k = 2 ^ (n * k) := by rw [hq, Int.pow_mul]
  rw [e]
  have h1 : n * k ≤ 1000 * k := Nat.mul_le_mul_right k hn
  exact Nat.le_trans (bits_of (m := n * k + 1) (Int.le_of_lt (kbt_pos _)) (by rw [Int.pow_succ]; have := kbt_pos (n * k); (first | lia | omega))) (by (first | lia | omega))
theorem slopeL_bits {h : Int} {c : C8} {p : P5} (g : Good c p) : ∀ d ∈ slopeL h c, Builtin.Int.intBits d ≤ 64 := by
  have s0 := nabs_le g.b0
  have s1 := nabs_le g.b1
  have s2 := nabs_le g.b2
  have s3 := nabs_le g.b3
  have s4 := nabs_le g.b4
  have s5 := nabs_le g.b5
  have s6 := nabs_le g.b6
  have s7 := nabs_le g.b7
  intro d hd
  simp only [slopeL, List.mem_cons, List.not_mem_nil, or_false] at hd
  rcases hd with rfl | rfl | rfl | rfl | rfl | rfl | rfl | rfl | rfl <;> exact intBits_le_64 (by (first | lia | omega)) (by (first | lia | omega))
theorem fdiv2_bits {q : Int} {n : Nat} (hq : q = 2 ^ n) (hn : n ≤ 1000) (k : Nat) : Builtin.Int.intBits ((q ^ k).fdiv 2) ≤ 1000 * k + 1 := by
  have e : q ^ k = 2 ^ (n * k) := by rw [hq, Int.pow_mul]
  rw [e, Int.fdiv_eq_ediv_of_nonneg _ (by decide)]
  have h1 : n * k ≤ 1000 * k := Nat.mul_le_mul_right k hn
  have := kbt_pos (n * k)
  exact Nat.le_trans (bits_of (m := n * k + 1) (by (first | lia | omega)) (by rw [Int.pow_succ]; (first | lia | omega))) (by (first | lia | omega))
noncomputable def OkN (w : World) (p : Program) (loose : List PySem.Str) (mean : ExcName → Option Value) (mg mb : PySem.Str → Option Value) (f : Addr) (vs : List Value) (need : Nat) (news : Led) (Post : Nat → Led → Addr → Prop) : Prop :=
  ∀ (dp un : Nat) (gd : Option (List Code)) (cn : PySem.Str) (cs : Scope) (a : Addr) (ccd : Value) (cl : List (PySem.Str × Addr)) (outer : List Env) (A₀ : Around) (base h₀ : Heap) (L : Addr) (m : PySem.Str → Option Value) (s : Shared) (rest : Led)
    (Q E : Value → Shared → Prop),
    Below A₀ base outer h₀ → Fr h₀ L s.heap m → (hd.heap_1 w.params).In h₀ → News h₀ L s.heap (news ++ rest) → Apart news rest → Top p loose mean mg mb h₀ → cs.kind = .function → Codes base → dp + need < recursionLimit → un + 8 * need < cLine →
    (∀ b R news' h' tk', Under b (news ++ rest) → (∀ q ∈ news ++ rest, @Ne Nat q.1 R) → Fr h₀ L h' m → News h₀ L h' (news' ++ rest) → Post b news' R → Q (.ref R) { s with heap := h', toks := tk' }) →
    wpAny (model PySem.Challenge.rw_wy0040_01.row.toRowW.prog w) (ktrTop dp un gd cn cs L a ccd cl outer) (call (.ref f) vs) Q E s
section
variable {w : World} {p : Program} {loose : List PySem.Str} {mean : ExcName → Option Value} {mg mb : PySem.Str → Option Value}
end
theorem ints_at {v : Value} : ∀ {vs : List Value} {ns : List Int} {i : Nat}, IntsAre vs ns → vs[i]? = some v → ∃ t, v = .int (ns.getD i 0) t
  | _, _, 0, .cons n t _, h => ⟨t, (Option.some.inj h).symm⟩
  | _, _, i + 1, .cons n t h', h => by
    have h2 := ints_at (i := i) h' (by simpa using h)
    simpa using h2
noncomputable def outL (p : P5) : List Int := [p.p5, p.p4, p.p3, p.p2, p.p1]
theorem out_snoc (h : Int) (p : P5) {i : Nat} (hi : i < 5) : (outL p).take (i + 1) = (outL p).take i ++ [(toldL h p).getD i 0 - h] := by
  rcases (by (first | lia | omega) : i = 0 ∨ i = 1 ∨ i = 2 ∨ i = 3 ∨ i = 4) with rfl | rfl | rfl | rfl | rfl <;> simp [outL, toldL] <;> (first | lia | omega)
end
section
open PySem PySem.W PySem.Spec PySem.Calls PyProof.Rows
section
open PyProof.Rows.LCg
variable {prog : Program} {w : World} {A : Around} {E : Value → Shared → Prop} {s : Shared} {h₀ : Heap} {L : Addr} {m : PySem.Str → Option Value} {env : Env} {K : Type} [DecidableEq K] {knd : KeyKind prog w K}
noncomputable def DEnd (knd : KeyKind prog w K) (h₀ : Heap) (L : Addr) (m : PySem.Str → Option Value) (s₁ : Shared) (pre : Led) (I C D : Addr) (S : Led → Prop) (rest : K → Value → Led → Prop) (kv vv : Value) (s₂ : Shared) : Prop :=
  ∃ h' tk news' k, knd.is k kv = true ∧ s₂ = { s₁ with heap := h', toks := tk } ∧ Fr h₀ L h' m ∧ News h₀ L h' (pre ++ news') ∧ Off3 I C D news' ∧ S news' ∧ rest k vv news'
noncomputable def DTurn (knd : KeyKind prog w K) (A : Around) (h₀ : Heap) (L : Addr) (m : PySem.Str → Option Value) (env : Env) (kx vx : Expr) (x : PySem.Str) (scope : Scope) (cl : List (PySem.Str × Addr)) (s : Shared) (S : Led → Prop) (P : Nat → Value → Prop)
    (Inv : Nat → List (K × Value) → Led → Prop) (i : Nat) (kvs : List (K × Value)) (news : Led) : Prop :=
  ∀ v I oI C oC D oD m₂ h tk (E' : Value → Shared → Prop), P i v → NsObj oC m₂ → m₂ x = some v → oD.IsDictOf knd kvs → Fr h₀ L h m → News h₀ L h ((I, oI) :: (C, oC) :: (D, oD) :: news) → Off3 I C D news → ((@Ne Nat I C) ∧ (@Ne Nat I D) ∧ (@Ne Nat C D)) →
    wpAny (model prog w) A (eval kx (compEnvC scope cl C env)) (fun kv s₄ => wpAny (model prog w) A (eval vx (compEnvC scope cl C env)) (fun vv s₅ =>
      DEnd knd h₀ L m { s with heap := h, toks := tk } [(I, oI), (C, oC), (D, oD)] I C D S (fun k y news' => Inv (i + 1) (stored kvs k y) news') kv vv s₅) E' s₄) E' { s with heap := h, toks := tk }
inductive DLI (knd : KeyKind prog w K) (h₀ : Heap) (L : Addr) (m : PySem.Str → Option Value) (s : Shared) (I C D : Addr) (n : Nat) (St : Nat → Heap → Prop) (S : Led → Prop) (Inv : Nat → List (K × Value) → Led → Prop) (k : Nat) (s' : Shared) : Prop
  | mk (h' : Heap) (tk i : Nat) (kvs : List (K × Value)) (oD : Obj) (m' : PySem.Str → Option Value) (news' : Led) (e : s' = { s with heap := h', toks := tk }) (hi : i ≤ n) (hk : k = n + 1 - i) (hl : kvs.length ≤ i) (st : St i h') (F : Fr h₀ L h' m) (hn : h'.Ns C m') (N : News h₀ L h' ((D, oD) :: news'))
    (hd : oD.IsDictOf knd kvs) (off : Off3 I C D news') (hS : S news') (v : Inv i kvs news')
theorem dloop {kx vx iter : Expr} {x : PySem.Str} {px : Pos} {scope : Scope} {cl : List (PySem.Str × Addr)} {pos : Pos} {I C D : Addr} {fp : List Addr} {n : Nat} {P : Nat → Value → Prop} {St : Nat → Heap → Prop} {S : Led → Prop}
    {Inv : Nat → List (K × Value) → Led → Prop} {R : Result → Shared → Prop} {m' : PySem.Str → Option Value} {oD : Obj} {news : Led}
    (W : Walks prog w A I fp [I] n P St) (hsz : n ≤ sizeLine) (hIo : ∀ i h, St i h → ∃ o, h.get? I = some o)
    (hSt : ∀ i h h' o nw, St i h → h.get? I = some o → h'.get? I = some o → (∀ b o, h₀.get? b = some o → h'.get? b = some o) → News h₀ L h' nw → S nw → St i h')
    (hkind : scope.kind = .function) (hx : scope.names.lookup x = some .local) (hDf : D ∉ fp) (hCf : C ∉ fp)
    (hCI : I ≠ C) (hDI : I ≠ D) (hDC : D ≠ C) (hIL : L ≠ I) (hCL : C ≠ L) (hDL : D ≠ L) (hI₀ : h₀.get? I = none) (hC₀ : h₀.get? C = none) (hD₀ : h₀.get? D = none)
    (hst : St 0 s.heap) (F : Fr h₀ L s.heap m) (hn : s.heap.Ns C m') (N : News h₀ L s.heap ((D, oD) :: news)) (hd : oD.IsDictOf knd []) (off : Off3 I C D news) (hS : S news) (hi : Inv 0 [] news)
    (turn : ∀ i kvs nw, i < n → Inv i kvs nw → DTurn knd A h₀ L m env kx vx x scope cl s S P Inv i kvs nw)
    (hR : ∀ h tk m' kvs oD news', Fr h₀ L h m → News h₀ L h ((D, oD) :: news') → oD.IsDictOf knd kvs → Off3 I C D news' → h.Ns C m' → Inv n kvs news' → R (.ok .next) { s with heap := h, toks := tk }) :
    codeAny (model prog w) A (.compLoop (.DictComp kx vx [⟨.Name x px, iter, [], 0⟩] scope pos) 0 (.ref I) (.ref D) (compEnvC scope cl C env)) R s := by
  refine codeAny_compLoop_testsD
    (DLI knd h₀ L m s I C D n St S Inv)
    ?_ (n + 1) ⟨s.heap, s.toks, 0, [], oD, m', news, rfl, Nat.zero_le _, rfl, Nat.le_refl _, hst, F, hn, N, hd, off, hS, hi⟩
  rintro k s' ⟨h1, tk1, i, kvs, oD, m', news', rfl, hin, rfl, hlen, hst1, F1, hn1, N1, hd1, off1, hS1, hi1⟩
  have off3 := off1.mem
  by_cases hlt : i < n
  · refine W.item i _ _ _ hlt hst1 fun v h2 tk2 hPv hst2 hk2 => ?_
    refine wpAny_assign_Name (wpAny_storeName_local (lookup_relabel_local hx) (hn1.at' fun o e => hk2 _ o (by simpa using Ne.symm hCI) e) (fun h3 hn3 hs3 => ?_) (by simp [compEnvC, relabel, hkind]))
    refine wpAny_tests_nil ?_
    rw [if_pos rfl]
    have hst3 : St (i + 1) h3 := W.frame _ _ _ hst2 fun b hb o e => hs3.extBut b o (fun q => hCf (by have q' : b = C := q; rw [← q']; exact hb)) e
    obtain ⟨oI, heI⟩ := hIo _ _ hst3
    obtain ⟨oC, heC, hoC⟩ := ns_obj hn3
    have F3 : Fr h₀ L h3 m := (fr_but F1 hk2 hIL hI₀).change hs3 hCL hC₀
    have N2 : News h₀ L h2 ((D, oD) :: news') := news_but N1 hk2 fun p hp => by
      rcases List.mem_cons.mp hp with rfl | hp
      · exact Ne.symm hDI
      · exact (off3 p hp).1
    have N3 : News h₀ L h3 ((I, oI) :: (C, oC) :: (D, oD) :: news') := fun p hp => by
      rcases List.mem_cons.mp hp with rfl | hp
      · exact ⟨heI, Ne.symm hIL, hI₀⟩
      rcases List.mem_cons.mp hp with rfl | hp
      · exact ⟨heC, hCL, hC₀⟩
      have z := N2 p hp
      refine ⟨hs3.extBut _ _ ?_ z.1, z.2⟩
      rcases List.mem_cons.mp hp with rfl | hp
      · exact hDC
      · exact (off3 p hp).2.1
    refine wpAny_mono (turn i kvs news' hlt hi1 v I oI C oC D oD _ h3 _ _ hPv hoC (by simp) hd1 F3 N3 off1 ⟨hCI, hDI, Ne.symm hDC⟩) (fun kv s4 h4 => wpAny_mono h4 (fun vv s5 h5 => ?_) fun _ _ e => e) fun _ _ e => e
    obtain ⟨h5, tk5, news5, kk, hkk, rfl, F5, N5, off5, hS5, hi5⟩ := h5
    have zI := (N5 (I, oI) (by simp)).1
    have zC := (N5 (C, oC) (by simp)).1
    have N5' : News h₀ L h5 news5 := fun p hp => N5 p (List.mem_append_right _ hp)
    have zD := N5 (D, oD) (by simp)
    have hst5 : St (i + 1) h5 := hSt _ _ _ _ _ hst3 heI zI F5.keep N5' hS5
    have off6 := off5.mem
    refine wpAny_dictSet_pairs (hsz := Nat.le_trans hlen (Nat.le_trans hin hsz)) hkk (Heap.dictOf_iff.mpr ⟨oD, zD.1, hd1⟩) fun h6 hl6 hs6 => ?_
    obtain ⟨oD6, ho6, hd6⟩ := Heap.dictOf_iff.mp hl6
    refine ⟨n + 1 - (i + 1), by (first | lia | omega), h6, _, i + 1, stored kvs kk vv, oD6, _, news5, rfl, hlt, rfl, Nat.le_trans (stored_length_le ..) (by (first | lia | omega)), W.frame _ _ _ hst5 fun b hb o e => hs6.extBut b o (fun q => hDf (q ▸ hb)) e, F5.change hs6 hDL hD₀,
      (hoC.ns zC).sameBut hs6 (Ne.symm hDC), fun p hp => ?_, hd6, off5, hS5, hi5⟩
    rcases List.mem_cons.mp hp with rfl | hp
    · exact ⟨ho6, hDL, hD₀⟩
    · exact ⟨hs6.extBut _ _ (off6 p hp).2.2 (N5' p hp).1, (N5' p hp).2⟩
  · obtain rfl : i = n := Nat.le_antisymm hin (Nat.not_lt.mp hlt)
    refine W.done _ _ _ hst1 fun h2 tk2 hk2 => ?_
    exact hR h2 tk2 m' kvs oD news' (fr_but F1 hk2 hIL hI₀) (news_but N1 hk2 fun p hp => by
      rcases List.mem_cons.mp hp with rfl | hp
      · exact Ne.symm hDI
      · exact (off3 p hp).1) hd1 off1 (hn1.at' fun o e => hk2 _ o (by simpa using Ne.symm hCI) e) hi1
theorem dblock {kx vx iter : Expr} {x : PySem.Str} {px : Pos} {scope : Scope} {cl : List (PySem.Str × Addr)} {pos : Pos} {s₂ : Shared} {I : Addr} {fp : List Addr} {n : Nat} {P : Nat → Value → Prop} {St : Nat → Heap → Prop} {S : Led → Prop} {news : Led}
    {Inv : Nat → List (K × Value) → Led → Prop} {RR : Value → Addr → Result → Shared → Prop}
    (W : Walks prog w A I fp [I] n P St) (hsz : n ≤ sizeLine) (hIo : ∀ i h, St i h → ∃ o, h.get? I = some o)
    (hSt : ∀ i h h' o nw, St i h → h.get? I = some o → h'.get? I = some o → (∀ b o, h₀.get? b = some o → h'.get? b = some o) → News h₀ L h' nw → S nw → St i h')
    (hcell : ∀ y ∈ scope.names, y.2 ≠ .cell) (hkind : scope.kind = .function) (hx : scope.names.lookup x = some .local) (hst : St 0 s₂.heap) (hfp : ∀ b ∈ fp, b < s₂.heap.objs.size)
    (F : Fr h₀ L s₂.heap m) (N : News h₀ L s₂.heap news) (hIL : L ≠ I) (hI₀ : h₀.get? I = none) (off : ∀ p ∈ news, p.1 ≠ I) (hS : S news) (hi : Inv 0 [] news)
    (turn : ∀ i kvs nw, i < n → Inv i kvs nw → DTurn knd A h₀ L m env kx vx x scope cl s₂ S P Inv i kvs nw)
    (hRR : ∀ D C h tk m' kvs oD news', Fr h₀ L h m → News h₀ L h ((D, oD) :: news') → oD.IsDictOf knd kvs → Off1 D news' → @LT.lt Nat _ L D → h.Ns C m' → h₀.get? C = none → C ≠ L → C ≠ D → (∀ p ∈ news', p.1 ≠ C) → Inv n kvs news' → RR (.ref D) C (.ok .next) { s₂ with heap := h, toks := tk }) :
    wpAny (model prog w) A newDict (fun acc s₃ => wpAny (model prog w) A (newFunctionEnv scope env.globals cl [] env.qual none .none (some env)) (fun cenv s₄ =>
      codeAny (model prog w) A (.compStart (.DictComp kx vx [⟨.Name x px, iter, [], 0⟩] scope pos) 0 (.ref I) acc { cenv with scope := relabel scope env }) (RR acc cenv.locals) s₄) E s₃) E s₂ := by
  refine wpAny_newObj_type (wpAny_newFunctionEnv hcell (by intro y hy; simp at hy) (fun h1 hns1 hsb1 => ?_) hkind)
  dsimp only at hns1 hsb1 ⊢
  have hnew : (s₂.heap.push { cls := .type "dict", dict := none, data := .dict #[] }).DictOf knd s₂.heap.objs.size [] := Heap.DictOf.new s₂.heap
  generalize hH2 : s₂.heap.push { cls := .type "dict", dict := none, data := .dict #[] } = H2 at hns1 hsb1 hnew ⊢
  have hC : H2.objs.size = s₂.heap.objs.size + 1 := by rw [← hH2, Heap.size_push]
  have hDC : s₂.heap.objs.size ≠ H2.objs.size := by rw [hC]; exact Nat.ne_of_lt (Nat.lt_succ_self _)
  have below : ∀ b, b < s₂.heap.objs.size → b ≠ H2.objs.size ∧ b ≠ s₂.heap.objs.size := fun b hb => ⟨by rw [hC]; exact Nat.ne_of_lt (Nat.lt_succ_of_lt hb), Nat.ne_of_lt hb⟩
  have old : ∀ b o, s₂.heap.get? b = some o → h1.get? b = some o := fun b o e => hsb1.extBut b o (below b (Heap.lt_size e)).1 (Heap.get?_push_of_some _ (hH2 ▸ Heap.get?_push_of_some _ e))
  have hacc : h1.DictOf knd s₂.heap.objs.size [] := hnew.at fun o e => hsb1.extBut _ _ hDC (Heap.get?_push_of_some _ e)
  obtain ⟨oD, hoD, hdD⟩ := Heap.dictOf_iff.mp hacc
  have hIlt : I < s₂.heap.objs.size := hfp I (W.sub I (List.mem_singleton.mpr rfl))
  have hLlt : L < s₂.heap.objs.size := F.ns.lt
  have fresh₀ : ∀ a, s₂.heap.objs.size ≤ a → h₀.get? a = none := fun a ha => Heap.get?_none_of_le (Nat.le_trans (Nat.le_of_lt (Nat.lt_of_le_of_lt F.above F.ns.lt)) ha)
  have hD₀ : h₀.get? s₂.heap.objs.size = none := fresh₀ _ (Nat.le_refl _)
  have hC₀ : h₀.get? H2.objs.size = none := fresh₀ _ (by rw [hC]; exact Nat.le_succ _)
  have hDL : s₂.heap.objs.size ≠ L := Ne.symm (below L hLlt).2
  have hCL : H2.objs.size ≠ L := Ne.symm (below L hLlt).1
  have loop : ∀ s₃ : Shared, s₃ = { s₂ with heap := h1, toks := s₂.toks + ([] : List (PySem.Str × Value)).length } →
      codeAny (model prog w) A (.compLoop (.DictComp kx vx [⟨.Name x px, iter, [], 0⟩] scope pos) 0 (.ref I) (.ref s₂.heap.objs.size) (compEnvC scope cl H2.objs.size env)) (RR (.ref s₂.heap.objs.size) H2.objs.size) s₃ := by
    rintro s₃ rfl
    refine dloop (knd := knd) (news := news) (oD := oD) W hsz hIo hSt hkind hx (fun hm => Nat.lt_irrefl _ (hfp _ hm)) (fun hm => by have := hfp _ hm; rw [hC] at this; exact Nat.lt_irrefl _ (Nat.lt_of_succ_lt this)) (below I hIlt).1 (below I hIlt).2 hDC hIL hCL hDL hI₀ hC₀ hD₀
      (W.frame _ _ _ hst fun b _ o e => old b o e) (F.keeps old) hns1 (fun p hp => ?_) hdD (Off3.of fun p hp => ⟨off p hp, (below _ (Heap.lt_size (N p hp).1)).1, (below _ (Heap.lt_size (N p hp).1)).2⟩) hS hi turn ?_
    · rcases List.mem_cons.mp hp with rfl | hp
      · exact ⟨hoD, hDL, hD₀⟩
      · exact ⟨old _ _ (N p hp).1, (N p hp).2⟩
    · intro h tk m' kvs oD' news' F' N' hd' off' hn' hi'
      have off3 := off'.mem
      exact hRR _ _ h tk m' kvs oD' news' F' N' hd' off'.one hLlt hn' hC₀ hCL (Ne.symm hDC) (fun p hp => (off3 p hp).2.1) hi'
  exact codeAny_compStart_dict (loop _ rfl) (W.self 0 _ _ _ (W.frame _ _ _ hst fun b _ o e => old b o e) (loop _ rfl))
inductive DSrc (knd : KeyKind prog w K) (A : Around) (h₀ : Heap) (L : Addr) (m : PySem.Str → Option Value) (env : Env) (kx vx : Expr) (x : PySem.Str) (scope : Scope) (cl : List (PySem.Str × Addr)) (Q : Value → Shared → Prop) (it : Value) (s₂ : Shared) : Prop
  | mk (I : Addr) (fp : List Addr) (n : Nat) (P : Nat → Value → Prop) (St : Nat → Heap → Prop) (S : Led → Prop) (news : Led) (Inv : Nat → List (K × Value) → Led → Prop) (z0 : it = .ref I) (z1 : Walks prog w A I fp [I] n P St) (z2 : n ≤ sizeLine) (z3 : ∀ i h, St i h → ∃ o, h.get? I = some o) (z4 : ∀ i h h' o nw, St i h → h.get? I = some o → h'.get? I = some o → (∀ b o, h₀.get? b = some o → h'.get? b = some o) → News h₀ L h' nw → S nw → St i h') (z5 : St 0 s₂.heap) (z6 : ∀ b ∈ fp, b < s₂.heap.objs.size) (z7 : Fr h₀ L s₂.heap m) (z8 : News h₀ L s₂.heap news) (z9 : L ≠ I) (z10 : h₀.get? I = none) (z11 : ∀ p ∈ news, p.1 ≠ I) (z12 : S news) (z13 : Inv 0 [] news) (z14 : ∀ i kvs nw, i < n → Inv i kvs nw → DTurn knd A h₀ L m env kx vx x scope cl s₂ S P Inv i kvs nw) (z15 : ∀ D h tk kvs oD news', Fr h₀ L h m → News h₀ L h ((D, oD) :: news') → oD.IsDictOf knd kvs → Off1 D news' → @LT.lt Nat _ L D → Inv n kvs news' → Q (.ref D) { s₂ with heap := h, toks := tk })
theorem DictComp_N {kx vx iter : Expr} {x : PySem.Str} {px : Pos} {scope : Scope} {cl : List (PySem.Str × Addr)} {pos : Pos} {Q : Value → Shared → Prop} (knd : KeyKind prog w K) (F₀ : Fr h₀ L s.heap m)
    (hclos : closureFor scope env = pure cl) (hcell : ∀ y ∈ scope.names, y.2 ≠ .cell) (hkind : scope.kind = .function)
    (hnames : ∀ y ∈ scope.names, y.2 = .local → scope.names.lookup y.1 = some .local) (hx : scope.names.lookup x = some .local)
    (h : wpAny (model prog w) A (eval iter env) (fun xv s₁ => wpAny (model prog w) A (pyIter xv) (fun it s₂ => DSrc knd A h₀ L m env kx vx x scope cl Q it s₂) E s₁) E s)
    (hs : ∀ x, foldedSetIterable iter env x = pure x) :
    wpAny (model prog w) A (eval (.DictComp kx vx [⟨.Name x px, iter, [], 0⟩] scope pos) env) Q E s := by
  rw [arm_eval_DictComp]
  refine wpAny_comprehension_free (use := none) rfl hs hclos hkind hnames (wpAny_mono h (fun xv s₁ h₁ => wpAny_mono h₁ (fun it s₂ h₂ => ?_) fun _ _ e => e) fun _ _ e => e)
  obtain ⟨I, fp, n, P, St, S, news, Inv, rfl, W, hsz, hIo, hSt, hst, hfp, F, N, hIL, hI₀, off, hS, hi, turn, fin⟩ := h₂
  refine dblock (knd := knd) (RR := fun acc C => compPost (model prog w) A E none Q acc C) W hsz hIo hSt hcell hkind hx hst hfp F N hIL hI₀ off hS hi turn ?_
  intro D C h tk m' kvs oD news' F' N' hd' off' hlt hn hC₀ hCL hCD offC hi'
  refine ⟨m', hn, fun h'' hs'' => fin D h'' tk kvs oD news' (F'.change hs'' hCL hC₀) (fun p hp => ?_) hd' off' hlt hi'⟩
  refine ⟨hs''.extBut _ _ ?_ (N' p hp).1, (N' p hp).2⟩
  rcases List.mem_cons.mp hp with rfl | hp
  · exact Ne.symm hCD
  · exact offC p hp
theorem dsrc_list {knd : KeyKind prog w K} {kx vx : Expr} {x : PySem.Str} {scope : Scope} {cl : List (PySem.Str × Addr)} {Q : Value → Shared → Prop} {ax : Addr} {its : Array Value} {k : Nat} {news : Led} (Inv : Nat → List (K × Value) → Led → Prop)
    (hh : A.handled = none) (F : Fr h₀ L s.heap m) (N : News h₀ L s.heap news) (hm : (ax, ({ cls := .type "list", data := .seq its k } : Obj)) ∈ news) (hsz : its.size ≤ sizeLine) (hi : Inv 0 [] news)
    (turn : ∀ i kvs nw, i < its.size → Inv i kvs nw → DTurn knd A h₀ L m env kx vx x scope cl s (SrcAt h₀ ax its) (fun i v => its[i]? = some v) Inv i kvs nw)
    (fin : ∀ D h tk kvs oD news', Fr h₀ L h m → News h₀ L h ((D, oD) :: news') → oD.IsDictOf knd kvs → Off1 D news' → @LT.lt Nat _ L D → Inv its.size kvs news' → Q (.ref D) { s with heap := h, toks := tk }) :
    wpAny (model prog w) A (pyIter (.ref ax)) (fun it s₂ => DSrc knd A h₀ L m env kx vx x scope cl Q it s₂) E s := by
  have hS : SrcAt h₀ ax its news := .inr ⟨_, hm, rfl, _, rfl⟩
  have hl := hS.list F.keep N
  have hlt : ax < s.heap.objs.size := by obtain ⟨_, e, _⟩ := hl; exact Heap.lt_size e
  refine wpAny_pyIter_list hl ?_
  have up : ∀ b o, s.heap.get? b = some o → (s.heap.push { cls := .type "list_iterator", data := .fields #[.ref ax, .int 0 0] }).get? b = some o := fun b o e => Heap.get?_push_of_some _ e
  refine ⟨_, _, _, _, _, _, news, Inv, rfl, Walks.list hh s.heap.objs.size ax (Nat.ne_of_lt hlt) its, hsz, fun i h st => by obtain ⟨o, e, _⟩ := st.1; exact ⟨o, e⟩, list_st, ⟨⟨_, Heap.get?_push_size _ rfl, rfl, rfl⟩, hl.push _⟩, fun b hb => ?_, F.keeps up, N.grown up, Nat.ne_of_lt F.ns.lt, next_is_new F,
    fun p hp => Nat.ne_of_lt (Heap.lt_size (N p hp).1), hS, hi, turn, fin⟩
  show b < (s.heap.push _).objs.size
  rw [Heap.size_push]
  rcases List.mem_cons.mp hb with rfl | hb
  · exact Nat.lt_succ_self _
  · rw [List.mem_singleton.mp hb]; exact Nat.lt_succ_of_lt hlt
theorem dsrc_range {knd : KeyKind prog w K} {kx vx : Expr} {x : PySem.Str} {scope : Scope} {cl : List (PySem.Str × Addr)} {Q : Value → Shared → Prop} {r : Addr} {a b : Int} {t u v : Tok} {n : Nat} {news : Led} (Inv : Nat → List (K × Value) → Led → Prop)
    (hh : A.handled = none) (F : Fr h₀ L s.heap m) (N : News h₀ L s.heap news) (hr : IsRange s.heap r a b 1 t u v) (hsm : Builtin.Range.small a b 1 = true) (hn : Builtin.Range.rangeSize a b 1 = ((n : Nat) : Int)) (hsz : n ≤ sizeLine) (hi : Inv 0 [] news)
    (turn : ∀ i kvs nw, i < n → Inv i kvs nw → DTurn knd A h₀ L m env kx vx x scope cl s (fun _ => True) (fun i v => ∃ t, v = .int (a + (i : Int)) t) Inv i kvs nw)
    (fin : ∀ D h tk kvs oD news', Fr h₀ L h m → News h₀ L h ((D, oD) :: news') → oD.IsDictOf knd kvs → Off1 D news' → @LT.lt Nat _ L D → Inv n kvs news' → Q (.ref D) { s with heap := h, toks := tk }) :
    wpAny (model prog w) A (pyIter (.ref r)) (fun it s₂ => DSrc knd A h₀ L m env kx vx x scope cl Q it s₂) E s := by
  refine wpAny_pyIter_range hr hsm ?_
  refine ⟨_, _, _, _, _, _, news, Inv, rfl, range_walks hh a n, hsz, fun i h st => ⟨_, st⟩, range_st, by show IsRangeIter _ _ _ _ _; rw [hn]; simpa using Heap.get?_push_size _ rfl, fun b hb => ?_, F.keeps fun _ _ e => Heap.get?_push_of_some _ e, N.grown fun _ _ e => Heap.get?_push_of_some _ e,
    Nat.ne_of_lt F.ns.lt, next_is_new F, fun p hp => Nat.ne_of_lt (Heap.lt_size (N p hp).1), trivial, hi, turn, fin⟩
  rw [List.mem_singleton.mp hb]
  show s.heap.objs.size < (s.heap.push _).objs.size
  rw [Heap.size_push]; exact Nat.lt_succ_self _
end
end
section
open PySem PySem.W PySem.Spec PySem.Calls PyProof.Rows
section
variable {prog : Program} {w : World} {A : Around} {E : Value → Shared → Prop} {s : Shared} {env : Env} {h₀ : Heap} {body : List Stmt} {Q : Flow → Shared → Prop}
theorem iter_textTurns {nm : PySem.Str} {px : Pos} {tx : PySem.Str} {t : Tok} {m₀ : PySem.Str → Option Value} {news : Led} (ha : tx.cps.all (· < 128) = true) (hh : A.handled = none) (F : Fr h₀ env.locals s.heap m₀) (N : News h₀ env.locals s.heap news)
    (rest₀ : ∀ I : Addr, (∀ p ∈ news, p.1 < I) → ItemsRest prog w A E h₀ env (.Name nm px) body Q s [(I, "str_ascii_iterator")] [] (tx.cps.toList.map fun c => Itm.tok fun u => .str ⟨#[c]⟩ u) m₀ news) :
    wpAny (model prog w) A (pyIter (.str tx t)) (fun it s₂ => TurnsAt prog w A h₀ env (.Name nm px) body Q E it s₂) E s := by
  refine wpAny_pyIter_ascii ha ?_
  refine ktu_core (tk0 := s.toks) (keep := []) (KTurns.ofWalks (Walks.strAscii hh s.heap.objs.size tx t) fun i v s Q E st q => wpAny_pure q) (by simp) ?_ ?_ ?_ ?_ ?_ ?_ ?_ ?_ (F.push _) (fun p hp => ⟨Heap.get?_push_of_some _ (N p hp).1, (N p hp).2⟩) trivial (rest₀ _ fun p hp => Heap.lt_size (N p hp).1)
  · rintro i v h ⟨c, u, hx, rfl⟩
    refine ⟨.tok fun u => .str ⟨#[c]⟩ u, ?_, u, rfl⟩
    have hx' : tx.cps.toList[i]? = some c := by simpa using hx
    rw [List.getElem?_map, hx']; rfl
  · rintro i h ⟨o, g, c, _⟩
    exact ⟨[(s.heap.objs.size, o)], ⟨⟨rfl, c⟩, trivial⟩, fun p hp => by rw [List.mem_singleton.mp hp]; exact g⟩
  · intro b hb
    have hb' : b = s.heap.objs.size := by simpa using hb
    rw [hb']
    exact ⟨List.mem_cons_self .., next_is_new F⟩
  · intro b hb
    simpa using hb
  · intro b hb
    exact .inl (by simpa using hb)
  · intro hI
    have hb' : env.locals = s.heap.objs.size := by simpa using hI
    exact absurd F.ns.lt (hb' ▸ Nat.lt_irrefl _)
  · intro p hp hI
    exact absurd (Heap.lt_size (N p hp).1) ((List.mem_singleton.mp hI) ▸ Nat.lt_irrefl _)
  · exact ⟨_, Heap.get?_push_size _ rfl, rfl, rfl⟩
end
noncomputable abbrev stepsT : PySem.Str := PySem.Str.ofString "aAbBcCdD"
noncomputable def key (i : Nat) : PySem.Str := PySem.Txt.item stepsT (i : Int)
theorem key_list : (stepsT.cps.toList.map fun c => (⟨#[c]⟩ : PySem.Str)) = (List.range 8).map key := by decide +kernel
theorem key_inj : ∀ i, i < 8 → ∀ j, j < 8 → key i = key j → i = j := by decide +kernel
end
section
open PySem PySem.W PySem.Spec PySem.Calls PyProof.Rows
noncomputable def Tk (o : Nat → Nat) (s : Int) (k j : Nat) : Int := S8 fun m => Wk o s k m j * 2 ^ (32 * m)
theorem Tk_zero {o : Nat → Nat} {s : Int} {j : Nat} (hj : j < 8) : Tk o s 0 j = 2 ^ (32 * j) := by
  unfold Tk
  have e : S8 (fun m => Wk o s 0 m j * 2 ^ (32 * m)) = S8 (fun m => if m = j then (2 : Int) ^ (32 * m) else 0) := S8_congr fun m hm => by
    rw [Wk]
    by_cases h : j = m
    · simp [h]
    · rw [if_neg h, if_neg (fun e => h e.symm), Int.zero_mul]
  rw [e, S8_at hj (fun m => (2 : Int) ^ (32 * m))]
theorem Tk_succ (o : Nat → Nat) (s : Int) (k j : Nat) : Tk o s (k + 1) j = S8 fun i => Tk o s k i * wgt o s i j := by
  unfold Tk
  have e1 : S8 (fun i => S8 (fun m => Wk o s k m i * 2 ^ (32 * m)) * wgt o s i j) = S8 (fun i => S8 fun m => Wk o s k m i * 2 ^ (32 * m) * wgt o s i j) := S8_congr fun i _ => (S8_mul _ _).symm
  rw [e1, S8_swap]
  refine S8_congr fun m _ => ?_
  rw [Wk, ← S8_mul]
  exact S8_congr fun i _ => by rw [Int.mul_assoc, Int.mul_assoc, Int.mul_comm (2 ^ _)]
theorem S8_le {f : Nat → Int} {b : Int} (h : ∀ i, i < 8 → - b ≤ f i ∧ f i ≤ b) : - (8 * b) ≤ S8 f ∧ S8 f ≤ 8 * b := by
  have h0 := h 0 (by decide)
  have h1 := h 1 (by decide)
  have h2 := h 2 (by decide)
  have h3 := h 3 (by decide)
  have h4 := h 4 (by decide)
  have h5 := h 5 (by decide)
  have h6 := h 6 (by decide)
  have h7 := h 7 (by decide)
  unfold S8
  (first | lia | omega)
theorem wgt_small {o : Nat → Nat} {s : Int} (h1 : -3 ≤ s) (h2 : s ≤ 4) (i j : Nat) : -3 ≤ wgt o s i j ∧ wgt o s i j ≤ 4 := by
  unfold wgt
  split
  · split <;> (first | lia | omega)
  · (first | lia | omega)
theorem mul_four {x w b : Int} (hx : - b ≤ x ∧ x ≤ b) (hw : -3 ≤ w ∧ w ≤ 4) : - (4 * b) ≤ x * w ∧ x * w ≤ 4 * b := by
  have e : w = -3 ∨ w = -2 ∨ w = -1 ∨ w = 0 ∨ w = 1 ∨ w = 2 ∨ w = 3 ∨ w = 4 := by (first | lia | omega)
  rcases e with rfl | rfl | rfl | rfl | rfl | rfl | rfl | rfl <;> (first | lia | omega)
theorem Wk_bound {o : Nat → Nat} {s : Int} (h1 : -3 ≤ s) (h2 : s ≤ 4) : ∀ k m j, - (32 ^ k : Int) ≤ Wk o s k m j ∧ Wk o s k m j ≤ 32 ^ k
  | 0, m, j => by rw [Wk]; split <;> simp
  | k + 1, m, j => by
    have := S8_le (b := 4 * 32 ^ k) (f := fun i => Wk o s k m i * wgt o s i j) fun i _ => mul_four (Wk_bound h1 h2 k m i) (wgt_small h1 h2 i j)
    rw [Wk, Int.pow_succ]
    (first | lia | omega)
theorem undig_at {n : Nat} : ∀ (l : List Int) (i : Nat), (∀ d ∈ l, 0 ≤ d ∧ d < 2 ^ n) → i < l.length → undig n l / 2 ^ (n * i) % 2 ^ n = l.getD i 0
  | [], i, _, hi => absurd hi (Nat.not_lt_zero _)
  | d :: l, 0, h, _ => by
    have hd := h d (List.mem_cons_self ..)
    rw [Nat.mul_zero, Int.pow_zero, Int.ediv_one, undig, Int.add_mul_emod_self_left, Int.emod_eq_of_lt hd.1 hd.2]; rfl
  | d :: l, i + 1, h, hi => by
    have hd := h d (List.mem_cons_self ..)
    have hP : (0 : Int) < 2 ^ n := kbt_pos n
    have e : (2 : Int) ^ (n * (i + 1)) = 2 ^ n * 2 ^ (n * i) := by rw [Nat.mul_add, Nat.mul_one, Nat.add_comm, Int.pow_add]
    rw [e, ← Int.ediv_ediv_of_nonneg (by (first | lia | omega)), undig, Int.add_mul_ediv_left _ _ (by (first | lia | omega)), Int.ediv_eq_zero_of_lt hd.1 hd.2, Int.zero_add,
      undig_at l i (fun x hx => h x (List.mem_cons_of_mem _ hx)) (by simpa using hi)]
    simp
noncomputable def tabL (o : Nat → Nat) (s : Int) (k j : Nat) : List Int := [Wk o s k 0 j + 2 ^ 31, Wk o s k 1 j + 2 ^ 31, Wk o s k 2 j + 2 ^ 31, Wk o s k 3 j + 2 ^ 31, Wk o s k 4 j + 2 ^ 31, Wk o s k 5 j + 2 ^ 31, Wk o s k 6 j + 2 ^ 31, Wk o s k 7 j + 2 ^ 31]
theorem Tk_lift (o : Nat → Nat) (s : Int) (k j : Nat) : Tk o s k j + undig 32 [2 ^ 31, 2 ^ 31, 2 ^ 31, 2 ^ 31, 2 ^ 31, 2 ^ 31, 2 ^ 31, 2 ^ 31] = undig 32 (tabL o s k j) := by
  simp only [Tk, S8, tabL, undig]
  (first | lia | omega)
theorem tk_digit {o : Nat → Nat} {s : Int} (h1 : -3 ≤ s) (h2 : s ≤ 4) {k j : Nat} (hk : k ≤ 5) (hj : j < 8) :
    ((Tk o s k j + undig 32 [2 ^ 31, 2 ^ 31, 2 ^ 31, 2 ^ 31, 2 ^ 31, 2 ^ 31, 2 ^ 31, 2 ^ 31]).fdiv (2 ^ (32 * j))).fmod (2 ^ 32) - 2 ^ 31 = Wk o s k j j := by
  have hb : ∀ m, - 2 ^ 25 ≤ Wk o s k m j ∧ Wk o s k m j ≤ 2 ^ 25 := fun m => by
    have h := Wk_bound (o := o) h1 h2 k m j
    have : (32 : Int) ^ k ≤ 32 ^ 5 := by
      rcases (by (first | lia | omega) : k = 0 ∨ k = 1 ∨ k = 2 ∨ k = 3 ∨ k = 4 ∨ k = 5) with rfl | rfl | rfl | rfl | rfl | rfl <;> decide
    (first | lia | omega)
  rw [Tk_lift, Int.fdiv_eq_ediv_of_nonneg _ (Int.le_of_lt (kbt_pos _)), Int.fmod_eq_emod_of_nonneg _ (by decide), undig_at (n := 32) _ j (fun d hd => ?_) (by simpa [tabL] using hj)]
  · revert j
    exact @lt8 (fun j => (∀ m, - 2 ^ 25 ≤ Wk o s k m j ∧ Wk o s k m j ≤ 2 ^ 25) → (tabL o s k j).getD j 0 - 2 ^ 31 = Wk o s k j j) (fun _ => by simp only [tabL, List.getD_cons_zero]; (first | lia | omega)) (fun _ => by simp only [tabL, List.getD_cons_zero, List.getD_cons_succ]; (first | lia | omega)) (fun _ => by simp only [tabL, List.getD_cons_zero, List.getD_cons_succ]; (first | lia | omega)) (fun _ => by simp only [tabL, List.getD_cons_zero, List.getD_cons_succ]; (first | lia | omega))
      (fun _ => by simp only [tabL, List.getD_cons_zero, List.getD_cons_succ]; (first | lia | omega)) (fun _ => by simp only [tabL, List.getD_cons_zero, List.getD_cons_succ]; (first | lia | omega)) (fun _ => by simp only [tabL, List.getD_cons_zero, List.getD_cons_succ]; (first | lia | omega)) (fun _ => by simp only [tabL, List.getD_cons_zero, List.getD_cons_succ]; (first | lia | omega))
  · have h0 := hb 0
    have h1 := hb 1
    have h2 := hb 2
    have h3 := hb 3
    have h4 := hb 4
    have h5 := hb 5
    have h6 := hb 6
    have h7 := hb 7
    simp only [tabL, List.mem_cons, List.not_mem_nil, or_false] at hd
    rcases hd with rfl | rfl | rfl | rfl | rfl | rfl | rfl | rfl <;> (first | lia | omega)
theorem Tk_bits {o : Nat → Nat} {s : Int} (h1 : -3 ≤ s) (h2 : s ≤ 4) {k j : Nat} (hk : k ≤ 5) : Builtin.Int.intBits (Tk o s k j) ≤ 1000 := by
  have hb : ∀ m, - 2 ^ 25 ≤ Wk o s k m j ∧ Wk o s k m j ≤ 2 ^ 25 := fun m => by
    have h := Wk_bound (o := o) h1 h2 k m j
    have : (32 : Int) ^ k ≤ 32 ^ 5 := by
      rcases (by (first | lia | omega) : k = 0 ∨ k = 1 ∨ k = 2 ∨ k = 3 ∨ k = 4 ∨ k = 5) with rfl | rfl | rfl | rfl | rfl | rfl <;> decide
    (first | lia | omega)
  have h0 := hb 0
  have h1 := hb 1
  have h2 := hb 2
  have h3 := hb 3
  have h4 := hb 4
  have h5 := hb 5
  have h6 := hb 6
  have h7 := hb 7
  refine intBits_le_iff.mpr ?_
  have : Tk o s k j ≤ 2 ^ 300 ∧ - 2 ^ 300 ≤ Tk o s k j := by
    simp only [Tk, S8]; (first | lia | omega)
  have e : (2 : Nat) ^ 300 < 2 ^ 1000 := Nat.pow_lt_pow_right (by decide) (by decide)
  (first | lia | omega)
theorem sums_k {l : List (Int × Int)} (h : In3 l) (s : Int) :
    [S8 fun i => Wk (town l) s 5 i i, S8 fun i => Wk (town l) s 4 i i, S8 fun i => Wk (town l) s 3 i i, S8 fun i => Wk (town l) s 2 i i, S8 fun i => Wk (town l) s 1 i i] = [(p5P l s).p5, (p5P l s).p4, (p5P l s).p3, (p5P l s).p2, (p5P l s).p1] := by
  have ho : ∀ i, i < 8 → town l i < 3 := fun i _ => town_lt h i
  obtain ⟨e1, e2, e3, e4, e5⟩ := sums_eq ho s
  rw [tr_eq ho, tr_eq ho, tr_eq ho, tr_eq ho, tr_eq ho, e1, e2, e3, e4, e5]
end
section
open PySem PySem.W PySem.Spec PySem.Calls PyProof.Rows
noncomputable abbrev Ents := List (PySem.Str × Int)
noncomputable def getV (e : Ents) (k : PySem.Str) : Int := (lookI e k).getD 0
noncomputable def hasK (e : Ents) (k : PySem.Str) : Bool := (lookI e k).isSome
theorem lookI_cons (p : PySem.Str × Int) (e : Ents) (k : PySem.Str) : lookI (p :: e) k = if p.1 = k then some p.2 else lookI e k := by
  unfold lookI
  by_cases h : p.1 = k <;> simp [h]
theorem any_look : ∀ (e : Ents) (k : PySem.Str), e.any (fun p => p.1 = k) = (lookI e k).isSome
  | [], k => rfl
  | p :: e, k => by
    rw [lookI_cons, List.any_cons, any_look e k]
    by_cases h : p.1 = k <;> simp [h]
theorem lookI_map : ∀ (e : Ents) (k k2 : PySem.Str) (v : Int), lookI (e.map fun p => if p.1 = k then (p.1, v) else p) k2 = if k2 = k then (lookI e k2).map (fun _ => v) else lookI e k2
  | [], k, k2, v => by simp [lookI]
  | p :: e, k, k2, v => by
    rw [List.map_cons, lookI_cons, lookI_map e, lookI_cons]
    by_cases h : p.1 = k
    · by_cases h2 : k2 = k
      · subst h2; simp [h]
      · have h3 : ¬ p.1 = k2 := fun q => h2 (q ▸ h)
        have h4 : ¬ k = k2 := fun q => h2 q.symm
        simp [h, h2, h4]
    · by_cases h2 : p.1 = k2
      · have h3 : ¬ k2 = k := fun q => h (h2.trans q)
        simp [h, h2, h3]
      · simp [h, h2]
theorem lookI_snoc : ∀ (e : Ents) (k k2 : PySem.Str) (v : Int), lookI (e ++ [(k, v)]) k2 = match lookI e k2 with | some x => some x | none => if k = k2 then some v else none
  | [], k, k2, v => by rw [List.nil_append, lookI_cons]; simp [lookI]
  | p :: e, k, k2, v => by
    rw [List.cons_append, lookI_cons, lookI_snoc e, lookI_cons]
    by_cases h : p.1 = k2 <;> simp [h]
theorem lookI_add (e : Ents) (q : PySem.Str × Int) (k : PySem.Str) : lookI (addI e q) k = if k = q.1 then some (getV e k + q.2) else lookI e k := by
  unfold addI putI
  rw [any_look]
  by_cases h : k = q.1
  · subst h
    cases hl : lookI e q.1 with
    | none => rw [if_neg (by simp), lookI_snoc, hl]; simp [getV, hl]
    | some x => rw [if_pos (by simp), lookI_map, if_pos rfl, hl]; simp [getV, hl]
  · rw [if_neg h]
    have h' : ¬ q.1 = k := fun e => h e.symm
    split
    · rw [lookI_map, if_neg h]
    · rw [lookI_snoc]
      cases lookI e k <;> simp [h']
theorem getV_add (e : Ents) (q : PySem.Str × Int) (k : PySem.Str) : getV (addI e q) k = getV e k + if k = q.1 then q.2 else 0 := by
  unfold getV
  rw [lookI_add]
  by_cases h : k = q.1 <;> simp [h, getV]
theorem hasK_add (e : Ents) (q : PySem.Str × Int) (k : PySem.Str) : hasK (addI e q) k = (hasK e k || decide (k = q.1)) := by
  unfold hasK
  rw [lookI_add]
  by_cases h : k = q.1 <;> simp [h]
theorem getV_fold : ∀ (l e : Ents) (k : PySem.Str), getV (l.foldl addI e) k = getV e k + (l.map fun q => if k = q.1 then q.2 else 0).sum
  | [], e, k => by simp
  | q :: l, e, k => by rw [List.foldl_cons, getV_fold l, getV_add, List.map_cons, List.sum_cons]; (first | lia | omega)
theorem hasK_fold : ∀ (l e : Ents) (k : PySem.Str), hasK (l.foldl addI e) k = (hasK e k || l.any fun q => decide (k = q.1))
  | [], e, k => by simp
  | q :: l, e, k => by rw [List.foldl_cons, hasK_fold l, hasK_add, List.any_cons, Bool.or_assoc]
theorem look_of {e : Ents} {k : PySem.Str} (h : hasK e k = true) : lookI e k = some (getV e k) := by
  unfold hasK at h
  unfold getV
  cases hl : lookI e k with
  | none => rw [hl] at h; cases h
  | some x => rfl
noncomputable def Nd (e : Ents) : Prop := (e.map (·.1)).Nodup
theorem look_mem : ∀ {e : Ents} {k : PySem.Str}, lookI e k = none → k ∉ e.map (·.1)
  | [], _, _ => by simp
  | p :: e, k, h => by
    rw [lookI_cons] at h
    by_cases hp : p.1 = k
    · rw [if_pos hp] at h; cases h
    · rw [if_neg hp] at h
      have := look_mem h
      simp only [List.map_cons, List.mem_cons, not_or]
      exact ⟨fun e => hp e.symm, this⟩
theorem Nd_add {e : Ents} (h : Nd e) (q : PySem.Str × Int) : Nd (addI e q) := by
  unfold addI putI
  rw [any_look]
  split
  · unfold Nd at *
    rw [List.map_map]
    have e2 : ((fun p : PySem.Str × Int => p.1) ∘ fun p => if p.1 = q.1 then (p.1, (lookI e q.1).getD 0 + q.2) else p) = fun p => p.1 := by
      funext p; simp only [Function.comp]; split <;> rfl
    rw [e2]; exact h
  · rename_i hn
    unfold Nd at *
    have hl : lookI e q.1 = none := by cases hl : lookI e q.1 with
      | none => rfl
      | some x => rw [hl] at hn; exact absurd rfl hn
    have := look_mem hl
    rw [List.map_append, List.nodup_append]
    refine ⟨h, by simp, fun a ha b hb => ?_⟩
    simp only [List.map_cons, List.map_nil, List.mem_singleton] at hb
    subst hb
    exact fun e => this (e ▸ ha)
theorem Nd_fold : ∀ (l : Ents) {e : Ents}, Nd e → Nd (l.foldl addI e)
  | [], _, h => h
  | q :: l, _, h => by rw [List.foldl_cons]; exact Nd_fold l (Nd_add h q)
theorem sum_map : ∀ {e : Ents} (k : PySem.Str) (v : Int), Nd e → (lookI e k).isSome = true → sumI (e.map fun p => if p.1 = k then (p.1, v) else p) = sumI e - getV e k + v
  | [], k, v, _, h => by cases h
  | p :: e, k, v, hn, h => by
    have hn2 : p.1 ∉ e.map (·.1) ∧ Nd e := by unfold Nd at *; simpa using hn
    unfold getV
    rw [lookI_cons] at h ⊢
    by_cases hp : p.1 = k
    · have hmap : (e.map fun p => if p.1 = k then (p.1, v) else p) = e := by
        refine (List.map_congr_left fun r hr => ?_).trans (List.map_id e)
        rw [if_neg (fun er => hn2.1 (List.mem_map.mpr ⟨r, hr, er.trans hp.symm⟩))]; rfl
      rw [List.map_cons, hmap]
      simp [sumI, hp]; (first | lia | omega)
    · rw [if_neg hp] at h ⊢
      have ih := sum_map k v hn2.2 h
      rw [List.map_cons, if_neg hp]
      unfold getV at ih
      simp only [sumI, List.map_cons, List.sum_cons] at ih ⊢
      (first | lia | omega)
theorem sumI_add {e : Ents} (h : Nd e) (q : PySem.Str × Int) : sumI (addI e q) = sumI e + q.2 := by
  unfold addI putI
  rw [any_look]
  split
  · rename_i hs
    rw [sum_map _ _ h hs]
    unfold getV; (first | lia | omega)
  · rename_i hn
    have hl : lookI e q.1 = none := by cases hl : lookI e q.1 with
      | none => rfl
      | some x => rw [hl] at hn; exact absurd rfl hn
    simp [sumI, hl]
theorem sumI_fold : ∀ (l : Ents) {e : Ents}, Nd e → sumI (l.foldl addI e) = sumI e + sumI l
  | [], e, _ => by simp [sumI]
  | q :: l, e, h => by
    rw [List.foldl_cons, sumI_fold l (Nd_add h q), sumI_add h]
    simp only [sumI, List.map_cons, List.sum_cons]; (first | lia | omega)
noncomputable def nbr (o : Nat → Nat) (i : Nat) : List Nat := (List.range 8).filter fun j => o j = o (par i)
noncomputable def innL (o : Nat → Nat) (s : Int) (i : Nat) : Ents := (nbr o i).map fun j => (key j, if j = par i then 1 - s else 1)
noncomputable def rowE (o : Nat → Nat) (s : Int) (T : Nat → Int) (i : Nat) : Ents := (innL o s i).map fun p => (p.1, T i * p.2)
noncomputable def freshE (o : Nat → Nat) (s : Int) (T : Nat → Int) : Nat → Ents
  | 0 => []
  | i + 1 => (rowE o s T i).foldl addI (freshE o s T i)
theorem row_sum (o : Nat → Nat) (s : Int) (T : Nat → Int) (i j : Nat) (hj : j < 8) : ((rowE o s T i).map fun q => if key j = q.1 then q.2 else 0).sum = T i * wgt o s i j := by
  have e1 : ∀ l : List Nat, (∀ a ∈ l, a < 8) → l.Nodup → ((((l.filter fun j => o j = o (par i)).map fun j => (key j, if j = par i then 1 - s else 1)).map fun p => (p.1, T i * p.2)).map fun q => if key j = q.1 then q.2 else 0).sum = if j ∈ l then T i * wgt o s i j else 0 := by
    intro l
    induction l with
    | nil => intro _ _; rfl
    | cons a l ih =>
      intro hl hnd
      have ha := hl a (List.mem_cons_self ..)
      have ih' := ih (fun b hb => hl b (List.mem_cons_of_mem _ hb)) (List.nodup_cons.mp hnd).2
      have hal := (List.nodup_cons.mp hnd).1
      by_cases ho : o a = o (par i)
      · rw [List.filter_cons_of_pos (by simpa using ho), List.map_cons, List.map_cons, List.map_cons, List.sum_cons, ih']
        by_cases hja : j = a
        · subst hja
          rw [if_pos rfl, if_neg hal, if_pos (List.mem_cons_self ..), wgt, if_pos ho]; simp
        · rw [if_neg (fun e => hja (key_inj j hj a ha e))]
          simp [hja]
      · rw [List.filter_cons_of_neg (by simpa using ho), ih']
        by_cases hja : j = a
        · subst hja
          rw [if_neg hal, if_pos (List.mem_cons_self ..), wgt, if_neg ho, Int.mul_zero]
        · simp [hja]
  have e2 := e1 (List.range 8) (fun a h => List.mem_range.mp h) List.nodup_range
  rw [if_pos (List.mem_range.mpr hj)] at e2
  exact e2
theorem row_any (o : Nat → Nat) (s : Int) (T : Nat → Int) (i j : Nat) (hj : j < 8) : ((rowE o s T i).any fun q => decide (key j = q.1)) = decide (o j = o (par i)) := by
  unfold rowE innL nbr
  rw [List.any_map, List.any_map, List.any_filter]
  rw [Bool.eq_iff_iff]
  simp only [List.any_eq_true, List.mem_range, Bool.and_eq_true, decide_eq_true_eq, Function.comp]
  constructor
  · rintro ⟨a, ha, h1, h2⟩
    rw [key_inj j hj a ha h2]; exact h1
  · intro h
    exact ⟨j, hj, h, rfl⟩
theorem fresh_nd (o : Nat → Nat) (s : Int) (T : Nat → Int) : ∀ i, Nd (freshE o s T i)
  | 0 => List.nodup_nil
  | i + 1 => Nd_fold _ (fresh_nd o s T i)
theorem fresh_all {o : Nat → Nat} {s : Int} {T : Nat → Int} {j : Nat} (hj : j < 8) : lookI (freshE o s T 8) (key j) = some (S8 fun i => T i * wgt o s i j) := by
  have hg : getV (freshE o s T 8) (key j) = S8 fun i => T i * wgt o s i j := by
    simp only [freshE, getV_fold, row_sum o s T _ j hj, S8]
    simp [getV, lookI]
  have hh : hasK (freshE o s T 8) (key j) = true := by
    have hp : o j = o (par (par j)) := by rw [par_par j hj]
    have h8 := par_lt j hj
    simp only [freshE, hasK_fold, row_any o s T _ j hj, Bool.or_eq_true, decide_eq_true_eq]
    revert hp h8
    generalize par j = k
    intro hp h8
    rcases (by (first | lia | omega) : k = 0 ∨ k = 1 ∨ k = 2 ∨ k = 3 ∨ k = 4 ∨ k = 5 ∨ k = 6 ∨ k = 7) with rfl | rfl | rfl | rfl | rfl | rfl | rfl | rfl <;> simp [hp]
  rw [look_of hh, hg]
noncomputable def tabE (f : Nat → Int) (n : Nat) : Ents := (List.range n).map fun i => (key i, f i)
theorem tabE_succ (f : Nat → Int) (n : Nat) : tabE f (n + 1) = tabE f n ++ [(key n, f n)] := by
  unfold tabE; rw [List.range_succ, List.map_append]; rfl
theorem tabE_none {f : Nat → Int} {n : Nat} (h : n < 8) : lookI (tabE f n) (key n) = none := by
  cases hl : lookI (tabE f n) (key n) with
  | none => rfl
  | some x =>
    exfalso
    have : ((tabE f n).any fun p => p.1 = key n) = true := by rw [any_look, hl]; rfl
    rw [List.any_eq_true] at this
    obtain ⟨p, hp, he⟩ := this
    obtain ⟨i, hi, rfl⟩ := List.mem_map.mp hp
    have hi' := List.mem_range.mp hi
    have := key_inj i (by (first | lia | omega)) n h (by simpa using he)
    (first | lia | omega)
theorem tabE_look {f : Nat → Int} : ∀ {n j : Nat}, n ≤ 8 → j < n → lookI (tabE f n) (key j) = some (f j)
  | n + 1, j, hn, hj => by
    rw [tabE_succ, lookI_snoc]
    rcases Nat.lt_or_ge j n with h | h
    · rw [tabE_look (by (first | lia | omega)) h]
    · obtain rfl : j = n := by (first | lia | omega)
      rw [tabE_none (by (first | lia | omega))]; simp
theorem tabE_sum (f : Nat → Int) : sumI (tabE f 8) = S8 f := by
  simp [sumI, tabE, List.range_succ, S8]; (first | lia | omega)
theorem putI_new {e : Ents} {k : PySem.Str} {v : Int} (h : lookI e k = none) : putI e k v = e ++ [(k, v)] := by
  unfold putI
  rw [any_look, h]; rfl
theorem tab_put {f : Nat → Int} {n : Nat} {v : Int} (h : n < 8) (hv : v = f n) : putI (tabE f n) (key n) v = tabE f (n + 1) := by
  rw [putI_new (tabE_none h), tabE_succ, hv]
end
section
open PySem PySem.W PySem.Spec PySem.Calls PyProof.Rows
section
open PyProof.Rows.LCg
variable {prog : Program} {w : World} {A : Around} {E : Value → Shared → Prop} {s : Shared} {h₀ : Heap} {L : Addr} {m : PySem.Str → Option Value} {env : Env} {K : Type} [DecidableEq K]
theorem dsrc_keysB {knd : KeyKind prog w K} {kx vx : Expr} {x : PySem.Str} {scope : Scope} {cl : List (PySem.Str × Addr)} {Q : Value → Shared → Prop} {d : Addr} {od : Obj} {kd : List (K × Value)} {news : Led} (Inv : Nat → List (K × Value) → Led → Prop)
    (hh : A.handled = none) (F : Fr h₀ L s.heap m) (N : News h₀ L s.heap news) (hm : h₀.get? d = some od) (hd : od.IsDictOf knd kd) (lo : (d == sysModules) = false) (hsz : kd.length ≤ sizeLine) (hi : Inv 0 [] news)
    (turn : ∀ i kvs nw, i < kd.length → Inv i kvs nw → DTurn knd A h₀ L m env kx vx x scope cl s (fun _ => True) (fun i v => ∃ k y, kd[i]? = some (k, y) ∧ knd.is k v = true) Inv i kvs nw)
    (fin : ∀ D h tk kvs oD news', Fr h₀ L h m → News h₀ L h ((D, oD) :: news') → oD.IsDictOf knd kvs → Off1 D news' → @LT.lt Nat _ L D → Inv kd.length kvs news' → Q (.ref D) { s with heap := h, toks := tk }) :
    wpAny (model prog w) A (pyIter (.ref d)) (fun it s₂ => DSrc knd A h₀ L m env kx vx x scope cl Q it s₂) E s := by
  obtain ⟨ep, hat⟩ := KdkAt.of hd
  have hg := F.keep _ _ hm
  have hlt : d < s.heap.objs.size := Heap.lt_size hg
  refine wpAny_pyIter_dict lo (hat.dictAt hg) ?_
  have up : ∀ b o, s.heap.get? b = some o → (s.heap.push { cls := .type "dict_keyiterator", data := .fields #[.ref d, .int 0 0, .int kd.length 0, .int ep 0] }).get? b = some o := fun b o e => Heap.get?_push_of_some _ e
  refine ⟨_, _, _, _, _, (fun _ => True), news, Inv, rfl, Walks.dictKeys (knd := knd) hh s.heap.objs.size d (Nat.ne_of_lt hlt) kd ep, hsz, fun i h st => by obtain ⟨o, e, _⟩ := st.1; exact ⟨o, e⟩, fun i h h' o nw st e e' kk _ _ => ⟨by obtain ⟨o', q, r⟩ := st.1; rw [e] at q; cases q; exact ⟨o, e', r⟩, hat.dictAt (kk _ _ hm)⟩,
    ⟨⟨_, Heap.get?_push_size _ rfl, rfl, rfl⟩, hat.dictAt (up _ _ hg)⟩, fun b hb => ?_, F.keeps up, N.grown up, Nat.ne_of_lt F.ns.lt, next_is_new F, fun p hp => Nat.ne_of_lt (Heap.lt_size (N p hp).1), trivial, hi, turn, fin⟩
  show b < (s.heap.push _).objs.size
  rw [Heap.size_push]
  rcases List.mem_cons.mp hb with rfl | hb
  · exact Nat.lt_succ_self _
  · rw [List.mem_singleton.mp hb]; exact Nat.lt_succ_of_lt hlt
theorem kdh_tail {knd : KeyKind prog w K} {d : Addr} {od : Obj} {kvs : List (K × Value)} {k : K} {key v : Value} {Q : Value → Shared → Prop} {value slice : PySem.Expr} (hg : s.heap.get? d = some od) (hd : od.IsDictOf knd kvs) (hkey : knd.is k key = true) (hl : valueAt kvs k = some v) (h : Q v { s with toks := s.toks + 1 })
    (hs : subscripted slice false (.ref d) key = operate [.ref d, key] (getItem (.ref d) key)) : wpAny (model prog w) A (subscriptTail value slice (.ref d) key) Q E s :=
  have hD : s.heap.DictOf knd d kvs := Heap.dictOf_iff.mpr ⟨od, hg, hd⟩
  tail_any hD.typeIs slot_dict_getitem.lookup (wpAny_getItem_of hkey hD.mapOf hl h) hs
end
section
variable {w : World} {p : Program} {loose : List PySem.Str} {mean : ExcName → Option Value} {mg mb : PySem.Str → Option Value}
theorem Ok.use2 {f : Addr} {vs : List Value} {need : Nat} {news l : Led} {Post : Nat → Led → Value → Prop} {dp un : Nat} {gd : Option (List Code)} {cn : PySem.Str} {cs : Scope} {a : Addr} {ccd : Value} {cl : List (PySem.Str × Addr)} {outer : List Env} {A₀ : Around} {base h₀ : Heap} {L : Addr} {m : PySem.Str → Option Value} {s : Shared}
    {Q E : Value → Shared → Prop} (rest : Led) (B : Below A₀ base outer h₀) (F : Fr h₀ L s.heap m) (X : (hd.heap_1 w.params).In h₀) (N : News h₀ L s.heap l) (T : Top p loose mean mg mb h₀) (hk : cs.kind = .function) (hC : Codes base)
    (C : Ok w p loose mean mg mb f vs need news Post) (sub : ∀ q ∈ news ++ rest, q ∈ l) (ap : Apart news rest) (hd : dp + need < recursionLimit) (hu : un + 8 * need < cLine)
    (ret : ∀ b r news' h' tk', Under b (news ++ rest) → Fr h₀ L h' m → News h₀ L h' (news' ++ rest) → Post b news' r → Q r { s with heap := h', toks := tk' }) :
    wpAny (model PySem.Challenge.rw_wy0040_01.row.toRowW.prog w) (ktrTop dp un gd cn cs L a ccd cl outer) (call (.ref f) vs) Q E s :=
  C _ _ _ _ _ _ _ _ _ _ _ _ _ _ _ _ _ _ B F X (cb_drop N sub) ap T hk hC hd hu ret
end
theorem steps_itms : (stepsT.cps.toList.map fun c => Itm.tok fun u => Value.str ⟨#[c]⟩ u) = (List.range 8).map fun i => Itm.tok fun u => Value.str (key i) u := by
  have h := congrArg (List.map fun x : PySem.Str => Itm.tok fun u => Value.str x u) key_list
  rw [List.map_map, List.map_map] at h
  exact h
theorem range_drop {i : Nat} (h : i < 8) : (List.range 8).drop i = i :: (List.range 8).drop (i + 1) := by
  rw [List.drop_eq_getElem_cons (by simpa using h)]; simp
theorem DInts.at : ∀ {kv : List (PySem.Str × Value)} {e : Ents} {i : Nat} {k : PySem.Str} {y : Value}, DInts kv e → kv[i]? = some (k, y) → ∃ n t, y = .int n t ∧ e[i]? = some (k, n)
  | _, _, 0, _, _, .cons k n t _, h => by
    obtain ⟨rfl, rfl⟩ := Prod.mk.inj (Option.some.inj h)
    exact ⟨n, t, rfl, rfl⟩
  | _, _, i + 1, _, _, .cons k n t h', h => by
    obtain ⟨n', t', e1, e2⟩ := DInts.at (i := i) h' (by simpa using h)
    exact ⟨n', t', e1, by simpa using e2⟩
theorem valueAt_at {K : Type} [DecidableEq K] {kv : List (K × Value)} {i : Nat} {k : K} {y : Value} (hn : (kv.map (·.1)).Nodup) (h : kv[i]? = some (k, y)) : valueAt kv k = some y := by
  induction kv generalizing i with
  | nil => simp at h
  | cons p kv ih =>
    cases i with
    | zero =>
      obtain rfl := Option.some.inj h
      simp [valueAt]
    | succ i =>
      have h' : kv[i]? = some (k, y) := by simpa using h
      have hm : k ∈ kv.map (·.1) := List.mem_map.mpr ⟨_, List.mem_of_getElem? h', rfl⟩
      have hne : ¬ p.1 = k := fun e => (List.nodup_cons.mp hn).1 (by rw [← e] at hm; exact hm)
      have ih := ih (List.nodup_cons.mp hn).2 h'
      unfold valueAt at ih ⊢
      rw [List.find?_cons_of_neg (by simpa using hne)]
      exact ih
theorem dict_nd {K : Type} [DecidableEq K] {prog : Program} {w : World} {knd : KeyKind prog w K} {o : Obj} {kv : List (K × Value)} (h : o.IsDictOf knd kv) : (kv.map (·.1)).Nodup := let ⟨_, _, _, _, _, _, hn⟩ := h; hn
theorem innL_val {o : Nat → Nat} {s : Int} {i ii : Nat} {k : PySem.Str} {v : Int} (h1 : -3 ≤ s) (h2 : s ≤ 4) (h : (innL o s i)[ii]? = some (k, v)) : Builtin.Int.intBits v ≤ 64 := by
  have hm := List.mem_of_getElem? h
  obtain ⟨j, _, e⟩ := List.mem_map.mp hm
  obtain ⟨_, rfl⟩ := Prod.mk.inj e
  split <;> exact intBits_le_64 (by (first | lia | omega)) (by (first | lia | omega))
theorem innL_len (o : Nat → Nat) (s : Int) (i : Nat) : (innL o s i).length ≤ 8 := by
  unfold innL nbr
  rw [List.length_map]
  exact Nat.le_trans (List.length_filter_le _ _) (by simp)
theorem blkC {α : Type} {a b : List α} {x : α} (h : ∀ p ∈ a, p ∈ b) : ∀ p ∈ a, p ∈ x :: b := fun p hp => List.mem_cons_of_mem _ (h p hp)
theorem blkL {α : Type} {a b c : List α} (h : ∀ p ∈ a, p ∈ b) : ∀ p ∈ a, p ∈ b ++ c := fun p hp => List.mem_append_left _ (h p hp)
theorem blkR {α : Type} {a b c : List α} (h : ∀ p ∈ a, p ∈ c) : ∀ p ∈ a, p ∈ b ++ c := fun p hp => List.mem_append_right _ (h p hp)
theorem nmA1 {h₀ h : Heap} {L a : Addr} {ob : Obj} {p0 : Addr × Obj} {r : Led} (_ : News h₀ L h (p0 :: (a, ob) :: r)) : ∃ a', a' = a := ⟨_, rfl⟩
end
section
open PySem PySem.W PySem.Spec PySem.Calls PyProof.Rows
local macro_rules | `(tactic| kat_tups) => `(tactic| (k_here; (with_reducible show wpAny _ _ (subscriptTail _ _ (Value.ref _) (Value.int _ _)) _ _ _); (with_unfolding_all refine item_litK (by is_list) (by decide) (by decide) (by rfl) ?_ (by rfl); k_whole)))
local macro_rules | `(tactic| walk_at "subscriptTail") => `(tactic| kat_tups)
local macro_rules | `(tactic| walk_at "subscriptTail Name Name ref int") => `(tactic| kat_tups)
local macro_rules | `(tactic| walk_at "subscriptTail Name Constant ref int") => `(tactic| kat_tups)
local macro_rules | `(tactic| walk_at "getItem ref int") => `(tactic| (k_here; (with_unfolding_all refine getItem_listL (by is_list) (by decide) (by decide) (by rfl) ?_; k_whole)))
local macro_rules | `(tactic| walk_at "setItem ref int") => `(tactic| (k_here; k_dflt (refine' ki_set (by k_asm) (by k_asm) ?_ ?_ ?_ (by k_upd) ?_; decide; decide; rfl); intro _ _ N'; (try dsimp only [List.nil_append, List.cons_append] at N')))
local macro_rules | `(tactic| ktr_rel) => `(tactic| repeat' first | exact ib_hyp (by assumption) rfl | refine ib_add' rfl ?_ ?_ | refine ib_sub' rfl ?_ ?_ | refine ib_mul ?_ ?_ | decide)
local macro_rules | `(tactic| kl_some) => `(tactic| with_reducible first | exact List.mem_cons_self .. | (refine List.mem_cons_of_mem _ ?_; kl_some) | (refine List.mem_append_left _ ?_; kl_some) | (refine List.mem_append_right _ ?_; kl_some))
local macro_rules | `(tactic| ki_room) => `(tactic| with_reducible first | exact List.forall_mem_nil _ | exact fun _ h => h | (refine List.forall_mem_cons.mpr ⟨by kl_some, ?_⟩; ki_room) | (refine List.forall_mem_append.mpr ⟨?_, ?_⟩ <;> ki_room) | (refine blkC ?_; ki_room) | (refine blkL ?_; ki_room) | (refine blkR ?_; ki_room))
theorem offLC0 : True := by
  w_top off
  exact True.intro
section
open PySem PySem.W PySem.Spec PySem.Calls PyProof.Rows
section
variable {w : World} {p : Program} {loose : List PySem.Str} {mean : ExcName → Option Value} {mg mb : PySem.Str → Option Value}
theorem dend {K : Type} [DecidableEq K] {prog : Program} {knd : KeyKind prog w K} {h₀ : Heap} {L I C D : Addr} {m : PySem.Str → Option Value} {s₁ : Shared} {oI oC oD : Obj} {S : Led → Prop} {rest : K → Value → Led → Prop} {kv vv : Value} {h' : Heap} {tk : Nat} {k : K} {all : Led}
    (F : Fr h₀ L h' m) (N : News h₀ L h' all) (hk : knd.is k kv = true) (news' : Led) (sub : ∀ p ∈ (I, oI) :: (C, oC) :: (D, oD) :: news', p ∈ all) (off : LCg.Off3 I C D news') (hS : S news') (r : rest k vv news') :
    DEnd knd h₀ L m s₁ [(I, oI), (C, oC), (D, oD)] I C D S rest kv vv { s₁ with heap := h', toks := tk } := ⟨h', tk, news', k, hk, rfl, F, cb_drop N sub, off, hS, r⟩
structure IE where
  d : Addr
  o : Obj
  kv : List (PySem.Str × Value)
noncomputable abbrev IE.obj (e : IE) : Addr × Obj := (e.d, e.o)
structure AftIs (w : World) (o : Nat → Nat) (s : Int) (kA : List (PySem.Str × Value)) (ds : List IE) : Prop where
  at' : ∀ i, i < 8 → ∃ e, e ∈ ds ∧ valueAt kA (key i) = some (.ref e.d) ∧ e.o.IsDictOf (PySem.strKind PySem.Challenge.rw_wy0040_01.row.toRowW.prog w) e.kv ∧ DInts e.kv (innL o s i)
  far : ∀ e ∈ ds, @LT.lt Nat _ 54 e.d
theorem DInts.snoc {kv : List (PySem.Str × Value)} {e : Ents} (h : DInts kv e) (k : PySem.Str) (n : Int) (t : Tok) (hn : k ∉ e.map (·.1)) : DInts (stored kv k (.int n t)) (e ++ [(k, n)]) := by
  have h2 := h.put k n t
  have hl : lookI e k = none := by
    cases hl : lookI e k with
    | none => rfl
    | some x =>
      have := any_look e k
      rw [hl] at this
      obtain ⟨q, hq, e1⟩ := List.any_eq_true.mp this
      exact absurd (List.mem_map.mpr ⟨q, hq, by simpa using e1⟩) hn
  rw [putI_new hl] at h2
  exact h2
theorem mul_snoc {l : Ents} (hn : Nd l) {i : Nat} {k : PySem.Str} {v : Int} (h : l[i]? = some (k, v)) (T : Int) {kv : List (PySem.Str × Value)} (hd : DInts kv ((l.take i).map fun p => (p.1, T * p.2))) (t : Tok) :
    DInts (stored kv k (.int (T * v) t)) ((l.take (i + 1)).map fun p => (p.1, T * p.2)) := by
  have e : l.take (i + 1) = l.take i ++ [(k, v)] := by rw [List.take_add_one, h]; rfl
  rw [e, List.map_append]
  refine hd.snoc k (T * v) t ?_
  rw [List.map_map]
  intro hm
  have hlt : i < l.length := (List.getElem?_eq_some_iff.mp h).1
  have hn2 : ((l.take (i + 1)).map (·.1)).Nodup := (hn.sublist ((List.take_sublist _ _).map _))
  rw [e, List.map_append, List.nodup_append] at hn2
  exact hn2.2.2 k hm k (by simp) rfl
theorem innL_nd (o : Nat → Nat) (s : Int) (i : Nat) : Nd (innL o s i) := by
  unfold Nd innL
  rw [List.map_map]
  have e : ((fun p : PySem.Str × Int => p.1) ∘ fun j => (key j, if j = par i then 1 - s else 1)) = key := rfl
  rw [e, List.nodup_iff_pairwise_ne, List.pairwise_map]
  have h : (nbr o i).Pairwise (· < ·) := List.pairwise_lt_range.filter _
  refine h.imp_of_mem fun {a b} ha hb hab e => ?_
  have ha' := List.mem_range.mp ((List.mem_filter.mp ha).1)
  have hb' := List.mem_range.mp ((List.mem_filter.mp hb).1)
  have := key_inj a ha' b hb' e
  (first | lia | omega)
theorem row_len (o : Nat → Nat) (s : Int) (T : Nat → Int) (i : Nat) : (rowE o s T i).length ≤ 8 := by
  unfold rowE; rw [List.length_map]; exact innL_len o s i
theorem fresh_len (o : Nat → Nat) (s : Int) (T : Nat → Int) : ∀ i, (freshE o s T i).length ≤ 8 * i
  | 0 => Nat.le_refl _
  | i + 1 => Nat.le_trans (foldl_addI_len (rowE o s T i) (freshE o s T i)) (Nat.add_le_add (fresh_len o s T i) (row_len o s T i))
theorem LCoff {D : Addr} : ∀ {l : Led}, LCg.Off1 D l → ∀ p ∈ l, @Ne Nat p.1 D
  | [], _, _, hp => nomatch hp
  | _ :: _, h, _, hp => by
    rcases List.mem_cons.mp hp with rfl | hp
    · exact h.1
    · exact LCoff h.2 _ hp
theorem fr_dup {h₀ h : Heap} {L : Addr} {m : PySem.Str → Option Value} {x : PySem.Str} {v u : Value} (F : Fr h₀ L h fun y => if y = x then some v else if y = x then some u else m y) : Fr h₀ L h fun y => if y = x then some v else m y := by
  have e : (fun y => if y = x then some v else if y = x then some u else m y) = fun y => if y = x then some v else m y := by
    funext y; split <;> rfl
  rw [e] at F; exact F
theorem nmA0 {h₀ h : Heap} {L a : Addr} {ob : Obj} {r : Led} (_ : News h₀ L h ((a, ob) :: r)) : ∃ a', a' = a := ⟨_, rfl⟩
theorem nmO0 {h₀ h : Heap} {L a : Addr} {ob : Obj} {r : Led} (_ : News h₀ L h ((a, ob) :: r)) : ∃ a', a' = ob := ⟨_, rfl⟩
noncomputable def nthB {α : Type} : List (List α) → Nat → List α
  | [], _ => []
  | a :: _, 0 => a
  | _ :: r, n + 1 => nthB r n
noncomputable def catB {α : Type} (env : List (List α)) (last : Nat) : List Nat → List α
  | [] => nthB env last
  | i :: r => nthB env i ++ catB env last r
theorem mem_catB {α : Type} {env : List (List α)} {last : Nat} {q : α} : ∀ {ix : List Nat}, q ∈ catB env last ix ↔ ∃ i ∈ last :: ix, q ∈ nthB env i
  | [] => by simp [catB]
  | i :: r => by
    rw [catB, List.mem_append, mem_catB]
    constructor
    · rintro (h | ⟨j, hj, h⟩)
      · exact ⟨i, List.mem_cons_of_mem _ (List.mem_cons_self ..), h⟩
      · rcases List.mem_cons.mp hj with rfl | hj
        · exact ⟨j, List.mem_cons_self .., h⟩
        · exact ⟨j, List.mem_cons_of_mem _ (List.mem_cons_of_mem _ hj), h⟩
    · rintro ⟨j, hj, h⟩
      rcases List.mem_cons.mp hj with rfl | hj
      · exact .inr ⟨j, List.mem_cons_self .., h⟩
      rcases List.mem_cons.mp hj with rfl | hj
      · exact .inl h
      · exact .inr ⟨j, List.mem_cons_of_mem _ hj, h⟩
theorem subB {α : Type} (env : List (List α)) (la : Nat) (a : List Nat) (lb : Nat) (b : List Nat) (h : (la :: a).all (fun i => (lb :: b).any (Nat.beq i)) = true) : ∀ q ∈ catB env la a, q ∈ catB env lb b := fun q hq => by
  obtain ⟨i, hi, hq⟩ := mem_catB.mp hq
  obtain ⟨j, hj, e⟩ := List.any_eq_true.mp (List.all_eq_true.mp h i hi)
  have e2 := Nat.eq_of_beq_eq_true e
  subst e2
  exact mem_catB.mpr ⟨i, hj, hq⟩
end
end
theorem offLC1 : True := by
  w_top off
  exact True.intro
section
open PySem PySem.W PySem.Spec PySem.Calls PyProof.Rows
section
variable {w : World} {p : Program} {loose : List PySem.Str} {mean : ExcName → Option Value} {mg mb : PySem.Str → Option Value}
set_option maxHeartbeats 4000000 in
theorem lcStep {stm : List Stmt} {scope : Scope} (hb : (stm, scope) = (forBody 1 (forBody 4 (topFn 25).1), (topFn 25).2)) {o : Nat → Nat} {s1 : Int} (hs1 : -3 ≤ s1) (hs2 : s1 ≤ 4) {k i : Nat} (hk : k < 5) (hi : i < 8)
    {dp un : Nat} {gd : Option (List Code)} {cn : PySem.Str} {cs : Scope} {L fa LL : Addr} {ccd : Value} {cl : List (PySem.Str × Addr)} {outer : List Env} {base gg : Heap} {m : PySem.Str → Option Value} {s : Shared} {E : Value → Shared → Prop} {Q : Flow → Shared → Prop}
    {dT aA df : Addr} {oT oA of x1 x2 o5 : Obj} {kT kA kf : List (PySem.Str × Value)} {eT : Ents} {ds : List IE} {tl R0 : Led} {tu : Tok}
    (BB : Below (ktrTop dp un gd cn cs L fa ccd cl outer) base (envX cn cs L fa ccd cl :: outer) gg) (XX : (Mine.hd.heap_1 w.params).In gg) (TT : Top p loose mean mg mb gg) (hC : Codes base) (l54 : @LT.lt Nat _ 54 LL) (hd : dp + 150 < recursionLimit) (hu : un + 8 * 150 < cLine)
    (F : Fr gg LL s.heap fun y => if y = "fresh" then some (.ref df) else m y)
    (N : News gg LL s.heap ((dT, oT) :: (LL + 1 + 1 + 1 + 1 + 1, x1) :: (LL + 1 + 1 + 1 + 1, x2) :: (LL + 1, o5) :: (aA, oA) :: tl))
    (hT : oT.IsDictOf (PySem.strKind PySem.Challenge.rw_wy0040_01.row.toRowW.prog w) kT) (hkT : DInts kT eT) (hlook : lookI eT (key i) = some (Tk o s1 k i))
    (dx1 : x1.data = .cell (some (.str (key i) tu))) (dx2 : x2.data = .cell (some (.ref dT))) (dx5 : o5.data = .cell (some (.ref aA)))
    (hA : oA.IsDictOf (PySem.strKind PySem.Challenge.rw_wy0040_01.row.toRowW.prog w) kA) (aft : AftIs w o s1 kA ds) (hRs : Rests gg (ds.map IE.obj))
    (hf : of.IsDictOf (PySem.strKind PySem.Challenge.rw_wy0040_01.row.toRowW.prog w) kf) (hkf : DInts kf (freshE o s1 (Tk o s1 k) i)) (lf : @LT.lt Nat _ 54 df)
    (r1 : ∀ q ∈ (df, of) :: R0, q ∈ (dT, oT) :: (LL + 1 + 1 + 1 + 1 + 1, x1) :: (LL + 1 + 1 + 1 + 1, x2) :: (LL + 1, o5) :: (aA, oA) :: tl)
    (r2 : ∀ q ∈ (dT, oT) :: (LL + 1 + 1 + 1 + 1 + 1, x1) :: (LL + 1 + 1 + 1 + 1, x2) :: (LL + 1, o5) :: (aA, oA) :: tl, q ∈ (df, of) :: R0) (r3 : ∀ q ∈ R0, @Ne Nat df q.1)
    (ret : ∀ h' tk d' o' k', Fr gg LL h' (fun y => if y = "fresh" then some (.ref d') else m y) → News gg LL h' ((d', o') :: (dT, oT) :: (LL + 1 + 1 + 1 + 1 + 1, x1) :: (LL + 1 + 1 + 1 + 1, x2) :: (LL + 1, o5) :: (aA, oA) :: tl) →
      (∀ q ∈ (dT, oT) :: (LL + 1 + 1 + 1 + 1 + 1, x1) :: (LL + 1 + 1 + 1 + 1, x2) :: (LL + 1, o5) :: (aA, oA) :: tl, @LT.lt Nat _ q.1 d') →
      o'.IsDictOf (PySem.strKind PySem.Challenge.rw_wy0040_01.row.toRowW.prog w) k' → DInts k' (freshE o s1 (Tk o s1 k) (i + 1)) → Q .next { s with heap := h', toks := tk }) :
    wpAny (model PySem.Challenge.rw_wy0040_01.row.toRowW.prog w) ((ktrTop dp un gd cn cs L fa ccd cl outer).deeper (envOfC "_law_closed" scope LL 271 (.ref 270))) (execs stm (envOfC "_law_closed" scope LL 271 (.ref 270))) Q E s := by
  conv at hb => {rhs; arg 1; whnf}
  conv at hb => {rhs; arg 2; whnf}
  simp only [Prod.mk.injEq] at hb
  obtain ⟨rfl, rfl⟩ := hb
  revert XX
  k_fill
  intro XX
  (repeat' (first | (k_unfold; (try dsimp only)) | ((fail_if_success (with_reducible first | show wpAny _ _ (PySem.call (Value.ref _) _) _ _ _ | show wpAny _ _ (pyIter (Value.ref _)) _ _ _ | show wpAny _ _ (exec (Stmt.For _ _ _ _ _) _) _ _ _ | show LCg.CompSrc _ _ _ _ _ _ _ _ _ _ _ _ _ _ | show LCg.CompEnd _ _ _ _ _ _ _ _ _ _ _ _ _ _ | show wpAny _ _ (eval (Expr.ListComp _ _ _ _) _) _ _ _ | show wpAny _ _ (eval (Expr.DictComp _ _ _ _ _) _) _ _ _ | show wpAny _ _ (exec (Stmt.Assign _ (Expr.ListComp _ _ _ _) _) _) _ _ _ | show wpAny _ _ (exec (Stmt.Assign _ (Expr.DictComp _ _ _ _ _) _) _) _ _ _ | show _ ≤ _)); (first | walk1 | (dsimp only; walk1)) <;> (try dsimp only)) | (leave1; try dsimp only) | fail "no step"))
  refine' DictComp_N (PySem.strKind _ _) (by k_asm) ?f1 ?f2 ?f3 ?f4 ?f5 ?f6 (by intro _; rfl)
  case f1 => exact rfl
  case f2 => decide
  case f3 => exact rfl
  case f4 => decide
  case f5 => exact rfl
  (repeat' (first | (k_unfold; (try dsimp only)) | ((fail_if_success (with_reducible first | show wpAny _ _ (PySem.call (Value.ref _) _) _ _ _ | show wpAny _ _ (pyIter (Value.ref _)) _ _ _ | show wpAny _ _ (exec (Stmt.For _ _ _ _ _) _) _ _ _ | show wpAny _ _ (subscriptTail _ _ _ _) _ _ _ | show DEnd _ _ _ _ _ _ _ _ _ _ _ _ _ _ | show wpAny _ _ (setItem _ _ _) _ _ _ | show wpAny _ _ (getItem _ _) _ _ _ | show LCg.CompSrc _ _ _ _ _ _ _ _ _ _ _ _ _ _ | show LCg.CompEnd _ _ _ _ _ _ _ _ _ _ _ _ _ _ | show wpAny _ _ (eval (Expr.ListComp _ _ _ _) _) _ _ _ | show wpAny _ _ (eval (Expr.DictComp _ _ _ _ _) _) _ _ _ | show wpAny _ _ (exec (Stmt.Assign _ (Expr.ListComp _ _ _ _) _) _) _ _ _ | show wpAny _ _ (exec (Stmt.Assign _ (Expr.DictComp _ _ _ _ _) _) _) _ _ _ | show _ ≤ _)); (first | walk1 | (dsimp only; walk1)) <;> (try dsimp only)) | (leave1; try dsimp only) | fail "no step"))
  obtain ⟨e, hem, hev, heo, hei⟩ := aft.at' i hi
  have hge : gg.get? e.d = some e.o := hRs _ (List.mem_map_of_mem hem)
  have hnd := dict_nd heo
  have hlen : e.kv.length = (innL o s1 i).length := hei.length
  (rename News _ _ _ _ => lN8)
  refine kda_item lN8 (by (with_reducible repeat' first | exact List.mem_cons_self .. | refine List.mem_cons_of_mem _ ?_)) hA (strKind_is _ _ _ _) hev ?_
  (repeat' (first | (k_unfold; (try dsimp only)) | ((fail_if_success (with_reducible first | show wpAny _ _ (PySem.call (Value.ref _) _) _ _ _ | show wpAny _ _ (pyIter (Value.ref _)) _ _ _ | show wpAny _ _ (exec (Stmt.For _ _ _ _ _) _) _ _ _ | show wpAny _ _ (subscriptTail _ _ _ _) _ _ _ | show DEnd _ _ _ _ _ _ _ _ _ _ _ _ _ _ | show wpAny _ _ (setItem _ _ _) _ _ _ | show wpAny _ _ (getItem _ _) _ _ _ | show LCg.CompSrc _ _ _ _ _ _ _ _ _ _ _ _ _ _ | show LCg.CompEnd _ _ _ _ _ _ _ _ _ _ _ _ _ _ | show wpAny _ _ (eval (Expr.ListComp _ _ _ _) _) _ _ _ | show wpAny _ _ (eval (Expr.DictComp _ _ _ _ _) _) _ _ _ | show wpAny _ _ (exec (Stmt.Assign _ (Expr.ListComp _ _ _ _) _) _) _ _ _ | show wpAny _ _ (exec (Stmt.Assign _ (Expr.DictComp _ _ _ _ _) _) _) _ _ _ | show _ ≤ _)); (first | walk1 | (dsimp only; walk1)) <;> (try dsimp only)) | (leave1; try dsimp only) | fail "no step"))
  (rename Fr _ _ _ _ => lF9); (rename News _ _ _ _ => lN9)
  refine dsrc_keysB (od := e.o) (kd := e.kv) (fun ii kvs news => DInts kvs (((innL o s1 i).take ii).map fun p => (p.1, Tk o s1 k i * p.2)) ∧ news = _) (by rfl) lF9 lN9 hge heo (notMod (Nat.lt_trans (by decide) (aft.far e hem))) ?g1 ⟨.nil, rfl⟩ ?g2 ?g3
  case g1 => exact Nat.le_trans (hlen ▸ innL_len o s1 i) (by decide)
  case g2 =>
    rintro ii kvs nw hii ⟨hkk, rfl⟩
    unfold DTurn
    rintro v3 I3 oI3 C3 oC3 D3 oD3 m3 h3 tk3 E3 ⟨kk, y, hkv, hkey⟩ hCo3 hx3 hdD3 F3 N3 off3 ne3
    obtain ⟨wv, tw3, rfl, hiv⟩ := hei.at hkv
    obtain ⟨tkk, rfl⟩ : ∃ t, v3 = .str kk t := Value.isStrOf_shape hkey
    obtain ⟨tT0, hvT⟩ := (hkT.look (key i)).2 _ hlook
    (repeat' (first | (k_unfold; (try dsimp only)) | ((fail_if_success (with_reducible first | show wpAny _ _ (PySem.call (Value.ref _) _) _ _ _ | show wpAny _ _ (pyIter (Value.ref _)) _ _ _ | show wpAny _ _ (exec (Stmt.For _ _ _ _ _) _) _ _ _ | show wpAny _ _ (subscriptTail _ _ _ _) _ _ _ | show DEnd _ _ _ _ _ _ _ _ _ _ _ _ _ _ | show wpAny _ _ (setItem _ _ _) _ _ _ | show wpAny _ _ (getItem _ _) _ _ _ | show LCg.CompSrc _ _ _ _ _ _ _ _ _ _ _ _ _ _ | show LCg.CompEnd _ _ _ _ _ _ _ _ _ _ _ _ _ _ | show wpAny _ _ (eval (Expr.ListComp _ _ _ _) _) _ _ _ | show wpAny _ _ (eval (Expr.DictComp _ _ _ _ _) _) _ _ _ | show wpAny _ _ (exec (Stmt.Assign _ (Expr.ListComp _ _ _ _) _) _) _ _ _ | show wpAny _ _ (exec (Stmt.Assign _ (Expr.DictComp _ _ _ _ _) _) _) _ _ _ | show _ ≤ _)); (first | walk1 | (dsimp only; walk1)) <;> (try dsimp only)) | (leave1; try dsimp only) | fail "no step"))
    (rename News _ _ _ _ => lNa)
    refine kda_item lNa (by (with_reducible repeat' first | exact List.mem_cons_self .. | refine List.mem_cons_of_mem _ ?_)) hT (strKind_is _ _ _ _) hvT ?_
    (repeat' (first | (k_unfold; (try dsimp only)) | ((fail_if_success (with_reducible first | show wpAny _ _ (PySem.call (Value.ref _) _) _ _ _ | show wpAny _ _ (pyIter (Value.ref _)) _ _ _ | show wpAny _ _ (exec (Stmt.For _ _ _ _ _) _) _ _ _ | show wpAny _ _ (subscriptTail _ _ _ _) _ _ _ | show DEnd _ _ _ _ _ _ _ _ _ _ _ _ _ _ | show wpAny _ _ (setItem _ _ _) _ _ _ | show wpAny _ _ (getItem _ _) _ _ _ | show LCg.CompSrc _ _ _ _ _ _ _ _ _ _ _ _ _ _ | show LCg.CompEnd _ _ _ _ _ _ _ _ _ _ _ _ _ _ | show wpAny _ _ (eval (Expr.ListComp _ _ _ _) _) _ _ _ | show wpAny _ _ (eval (Expr.DictComp _ _ _ _ _) _) _ _ _ | show wpAny _ _ (exec (Stmt.Assign _ (Expr.ListComp _ _ _ _) _) _) _ _ _ | show wpAny _ _ (exec (Stmt.Assign _ (Expr.DictComp _ _ _ _ _) _) _) _ _ _ | show _ ≤ _)); (first | walk1 | (dsimp only; walk1)) <;> (try dsimp only)) | (leave1; try dsimp only) | fail "no step"))
    (rename News _ _ _ _ => lNb)
    refine kda_item lNb (by (with_reducible repeat' first | exact List.mem_cons_self .. | refine List.mem_cons_of_mem _ ?_)) hA (strKind_is _ _ _ _) hev ?_
    (repeat' (first | (k_unfold; (try dsimp only)) | ((fail_if_success (with_reducible first | show wpAny _ _ (PySem.call (Value.ref _) _) _ _ _ | show wpAny _ _ (pyIter (Value.ref _)) _ _ _ | show wpAny _ _ (exec (Stmt.For _ _ _ _ _) _) _ _ _ | show wpAny _ _ (subscriptTail _ _ _ _) _ _ _ | show DEnd _ _ _ _ _ _ _ _ _ _ _ _ _ _ | show wpAny _ _ (setItem _ _ _) _ _ _ | show wpAny _ _ (getItem _ _) _ _ _ | show LCg.CompSrc _ _ _ _ _ _ _ _ _ _ _ _ _ _ | show LCg.CompEnd _ _ _ _ _ _ _ _ _ _ _ _ _ _ | show wpAny _ _ (eval (Expr.ListComp _ _ _ _) _) _ _ _ | show wpAny _ _ (eval (Expr.DictComp _ _ _ _ _) _) _ _ _ | show wpAny _ _ (exec (Stmt.Assign _ (Expr.ListComp _ _ _ _) _) _) _ _ _ | show wpAny _ _ (exec (Stmt.Assign _ (Expr.DictComp _ _ _ _ _) _) _) _ _ _ | show _ ≤ _)); (first | walk1 | (dsimp only; walk1)) <;> (try dsimp only)) | (leave1; try dsimp only) | fail "no step"))
    (rename Fr _ _ _ _ => lFc)
    refine kdh_tail (lFc.keep _ _ hge) heo (strKind_is _ _ _ _) (valueAt_at hnd hkv) ?_ (by with_unfolding_all rfl)
    (repeat' (first | (k_unfold; (try dsimp only)) | ((fail_if_success (with_reducible first | show wpAny _ _ (PySem.call (Value.ref _) _) _ _ _ | show wpAny _ _ (pyIter (Value.ref _)) _ _ _ | show wpAny _ _ (exec (Stmt.For _ _ _ _ _) _) _ _ _ | show wpAny _ _ (subscriptTail _ _ _ _) _ _ _ | show DEnd _ _ _ _ _ _ _ _ _ _ _ _ _ _ | show wpAny _ _ (setItem _ _ _) _ _ _ | show wpAny _ _ (getItem _ _) _ _ _ | show LCg.CompSrc _ _ _ _ _ _ _ _ _ _ _ _ _ _ | show LCg.CompEnd _ _ _ _ _ _ _ _ _ _ _ _ _ _ | show wpAny _ _ (eval (Expr.ListComp _ _ _ _) _) _ _ _ | show wpAny _ _ (eval (Expr.DictComp _ _ _ _ _) _) _ _ _ | show wpAny _ _ (exec (Stmt.Assign _ (Expr.ListComp _ _ _ _) _) _) _ _ _ | show wpAny _ _ (exec (Stmt.Assign _ (Expr.DictComp _ _ _ _ _) _) _) _ _ _ | show _ ≤ _)); (first | walk1 | (dsimp only; walk1)) <;> (try dsimp only)) | (leave1; try dsimp only) | fail "no step"))
    (k_dflt (refine' Ok.use ?k1n36 ?k2n36 ?k3n36 ?k4n36 ?k5n36 ?kKn36 ?kCn36 (cimul (Nat.le_trans (Tk_bits hs1 hs2 (by (first | lia | omega))) (by decide)) (Nat.le_trans (innL_val hs1 hs2 hiv) (by decide))) ?kPn36 ?kapn36 ?kdn36 ?kun36 ?_); (case k1n36 | k2n36 | k3n36 | k4n36 | k5n36 => k_asm); (case kKn36 => exact rfl); (case kCn36 => assumption); (case kPn36 => (repeat' first | exact Picks.nil | (with_reducible exact Pick.head) | apply Picks.cons | apply Pick.tail)); (case kapn36 => (k_whole; unfold Apart; repeat' (first | exact List.forall_mem_nil _ | (refine List.forall_mem_cons.mpr ⟨?_, ?_⟩) | k_ne))); (case kdn36 => (first | exact room1 (by assumption) rfl | exact room0 (by assumption) | ktr_room)); (case kun36 => (first | exact units1 (by assumption) rfl | ktr_units)))
    intro b8 r8 n8 h8 tk8 U8 F8 N8 hp8
    obtain ⟨rfl, t8', rfl⟩ := hp8
    simp only [List.cons_append, List.nil_append, List.append_nil] at N8
    try dsimp only
    (repeat' (first | (k_unfold; (try dsimp only)) | ((fail_if_success (with_reducible first | show wpAny _ _ (PySem.call (Value.ref _) _) _ _ _ | show wpAny _ _ (pyIter (Value.ref _)) _ _ _ | show wpAny _ _ (exec (Stmt.For _ _ _ _ _) _) _ _ _ | show wpAny _ _ (subscriptTail _ _ _ _) _ _ _ | show DEnd _ _ _ _ _ _ _ _ _ _ _ _ _ _ | show wpAny _ _ (setItem _ _ _) _ _ _ | show wpAny _ _ (getItem _ _) _ _ _ | show LCg.CompSrc _ _ _ _ _ _ _ _ _ _ _ _ _ _ | show LCg.CompEnd _ _ _ _ _ _ _ _ _ _ _ _ _ _ | show wpAny _ _ (eval (Expr.ListComp _ _ _ _) _) _ _ _ | show wpAny _ _ (eval (Expr.DictComp _ _ _ _ _) _) _ _ _ | show wpAny _ _ (exec (Stmt.Assign _ (Expr.ListComp _ _ _ _) _) _) _ _ _ | show wpAny _ _ (exec (Stmt.Assign _ (Expr.DictComp _ _ _ _ _) _) _) _ _ _ | show _ ≤ _)); (first | walk1 | (dsimp only; walk1)) <;> (try dsimp only)) | (leave1; try dsimp only) | fail "no step"))
    (rename Fr _ _ _ _ => lFd); (rename News _ _ _ _ => lNd)
    exact dend lFd lNd (strKind_is _ _ _ _) _ (fun _ h => h) off3 trivial ⟨mul_snoc (innL_nd o s1 i) hiv _ hkk _, rfl⟩
  case g3 =>
    rintro D1 h1 tk1 kvT oD nw F1 N1 hT off1 ltD ⟨hkT, rfl⟩
    rw [hlen, List.take_length] at hkT
    have lD : @LT.lt Nat _ 54 D1 := Nat.lt_trans l54 ltD
    have nD := LCoff off1
    (repeat' (first | (k_unfold; (try dsimp only)) | ((fail_if_success (with_reducible first | show wpAny _ _ (PySem.call (Value.ref _) _) _ _ _ | show wpAny _ _ (pyIter (Value.ref _)) _ _ _ | show wpAny _ _ (exec (Stmt.For _ _ _ _ _) _) _ _ _ | show wpAny _ _ (subscriptTail _ _ _ _) _ _ _ | show DEnd _ _ _ _ _ _ _ _ _ _ _ _ _ _ | show wpAny _ _ (setItem _ _ _) _ _ _ | show wpAny _ _ (getItem _ _) _ _ _ | show LCg.CompSrc _ _ _ _ _ _ _ _ _ _ _ _ _ _ | show LCg.CompEnd _ _ _ _ _ _ _ _ _ _ _ _ _ _ | show wpAny _ _ (eval (Expr.ListComp _ _ _ _) _) _ _ _ | show wpAny _ _ (eval (Expr.DictComp _ _ _ _ _) _) _ _ _ | show wpAny _ _ (exec (Stmt.Assign _ (Expr.ListComp _ _ _ _) _) _) _ _ _ | show wpAny _ _ (exec (Stmt.Assign _ (Expr.DictComp _ _ _ _ _) _) _) _ _ _ | show _ ≤ _)); (first | walk1 | (dsimp only; walk1)) <;> (try dsimp only)) | (leave1; try dsimp only) | fail "no step"))
    refine' Ok.use2 R0 ?q1 ?q2 ?q3 N1 ?q5 ?q6 ?q7 (caddc hf hT hkf hkT (Nat.lt_trans (by decide) lf) (Nat.lt_trans (by decide) lD) ?q8 (Nat.le_trans (fresh_len o s1 (Tk o s1 k) i) (by (first | lia | omega))) ?q9) ?qs ?qa ?qd ?qu ?_
    case q1 => k_asm
    case q2 => k_asm
    case q3 => k_asm
    case q5 => k_asm
    case q6 => exact rfl
    case q7 => assumption
    case q8 => exact nD _ (r1 _ (List.mem_cons_self ..))
    case q9 =>
      show (List.map _ _).length ≤ _
      rw [List.length_map]; exact Nat.le_trans (innL_len o s1 i) (by decide)
    case qs =>
     exact fun q hq => by
      rcases List.mem_cons.mp hq with rfl | hq
      · exact List.mem_cons_of_mem _ (r1 _ (List.mem_cons_self ..))
      rcases List.mem_cons.mp hq with rfl | hq
      · exact List.mem_cons_self ..
      · exact List.mem_cons_of_mem _ (r1 _ (List.mem_cons_of_mem _ hq))
    case qa =>
     exact fun p hp q hq => by
      rcases List.mem_cons.mp hp with rfl | hp
      · exact r3 q hq
      rcases List.mem_cons.mp hp with rfl | hp
      · exact (nD q (r1 _ (List.mem_cons_of_mem _ hq))).symm
      cases hp
    case qd => (first | exact room1 (by assumption) rfl | exact room0 (by assumption) | ktr_room)
    case qu => (first | exact units1 (by assumption) rfl | ktr_units)
    intro b8 r8 n8 h8 tk8 U8 F8 N8 hp8
    obtain ⟨d', o', k', lt', hd', hk', rfl, rfl⟩ := hp8
    have N9 := cb_drop (news := (d', o') :: (dT, oT) :: (LL + 1 + 1 + 1 + 1 + 1, x1) :: (LL + 1 + 1 + 1 + 1, x2) :: (LL + 1, o5) :: (aA, oA) :: tl) N8 (fun q hq => by
      rcases List.mem_cons.mp hq with rfl | hq
      · exact List.mem_cons_self ..
      rcases List.mem_cons.mp (r2 q hq) with rfl | hq
      · exact List.mem_cons_of_mem _ (List.mem_cons_self ..)
      · exact List.mem_cons_of_mem _ (List.mem_cons_of_mem _ (List.mem_cons_of_mem _ hq)))
    have U9 : ∀ q ∈ (dT, oT) :: (LL + 1 + 1 + 1 + 1 + 1, x1) :: (LL + 1 + 1 + 1 + 1, x2) :: (LL + 1, o5) :: (aA, oA) :: tl, @LT.lt Nat _ q.1 d' := fun q hq => by
      refine Nat.lt_trans (U8 q ?_) lt'
      rcases List.mem_cons.mp (r2 q hq) with rfl | hq
      · exact List.mem_cons_self ..
      · exact List.mem_cons_of_mem _ (List.mem_cons_of_mem _ hq)
    clear N8 U8
    (repeat' (first | (k_unfold; (try dsimp only)) | ((fail_if_success (with_reducible first | show wpAny _ _ (PySem.call (Value.ref _) _) _ _ _ | show wpAny _ _ (pyIter (Value.ref _)) _ _ _ | show wpAny _ _ (exec (Stmt.For _ _ _ _ _) _) _ _ _ | show LCg.CompSrc _ _ _ _ _ _ _ _ _ _ _ _ _ _ | show LCg.CompEnd _ _ _ _ _ _ _ _ _ _ _ _ _ _ | show wpAny _ _ (eval (Expr.ListComp _ _ _ _) _) _ _ _ | show wpAny _ _ (eval (Expr.DictComp _ _ _ _ _) _) _ _ _ | show wpAny _ _ (exec (Stmt.Assign _ (Expr.ListComp _ _ _ _) _) _) _ _ _ | show wpAny _ _ (exec (Stmt.Assign _ (Expr.DictComp _ _ _ _ _) _) _) _ _ _ | show _ ≤ _)); (first | walk1 | (dsimp only; walk1)) <;> (try dsimp only)) | (leave1; try dsimp only) | fail "no step"))
    (rename Fr _ _ _ _ => lFz); (rename News _ _ _ _ => lNz)
    exact ret _ _ _ _ _ (fr_dup lFz) lNz U9 hd' hk'
end
end
theorem offLC2 : True := by
  w_top off
  exact True.intro
section
open PySem PySem.W PySem.Spec PySem.Calls PyProof.Rows
section
variable {w : World} {p : Program} {loose : List PySem.Str} {mean : ExcName → Option Value} {mg mb : PySem.Str → Option Value}
noncomputable abbrev lftV : Int := undig 32 [2 ^ 31, 2 ^ 31, 2 ^ 31, 2 ^ 31, 2 ^ 31, 2 ^ 31, 2 ^ 31, 2 ^ 31]
set_option maxHeartbeats 4000000 in
theorem lcFill {stm : List Stmt} {scope : Scope} (hb : (stm, scope) = (forBody 4 (forBody 4 (topFn 25).1), (topFn 25).2)) {o : Nat → Nat} {s1 : Int} (hs1 : -3 ≤ s1) (hs2 : s1 ≤ 4) {k i : Nat} (hk : k ≤ 5) (hi : i < 8)
    {dp un : Nat} {gd : Option (List Code)} {cn : PySem.Str} {cs : Scope} {L fa LL : Addr} {ccd : Value} {cl : List (PySem.Str × Addr)} {outer : List Env} {base gg : Heap} {m : PySem.Str → Option Value} {s : Shared} {E : Value → Shared → Prop} {Q : Flow → Shared → Prop}
    {dT dC : Addr} {oT oC x2 oS : Obj} {kT kC : List (PySem.Str × Value)} {eT : Ents} {tl : Led} {tu ti t9 : Tok}
    (BB : Below (ktrTop dp un gd cn cs L fa ccd cl outer) base (envX cn cs L fa ccd cl :: outer) gg) (XX : (Mine.hd.heap_1 w.params).In gg) (TT : Top p loose mean mg mb gg) (hC : Codes base) (hd : dp + 150 < recursionLimit) (hu : un + 8 * 150 < cLine)
    (F : Fr gg LL s.heap fun y => if y = "i" then some (.int (0 + (i : Int)) ti) else if y = "lift" then some (.int lftV t9) else if y = "closed" then some (.ref dC) else m y)
    (N : News gg LL s.heap ((dC, oC) :: (dT, oT) :: (LL + 1 + 1 + 1 + 1, x2) :: (LL + 1 + 1, oS) :: tl))
    (hT : oT.IsDictOf (PySem.strKind PySem.Challenge.rw_wy0040_01.row.toRowW.prog w) kT) (hkT : DInts kT eT) (hlook : lookI eT (key i) = some (Tk o s1 k i))
    (dxS : oS.data = .cell (some (.str stepsT tu))) (dx2 : x2.data = .cell (some (.ref dT)))
    (hCd : oC.IsDictOf (PySem.strKind PySem.Challenge.rw_wy0040_01.row.toRowW.prog w) kC) (hkC : DInts kC (tabE (fun j => Wk o s1 k j j) i))
    (nC : @Ne Nat dC dT) (nC2 : ∀ q ∈ (dT, oT) :: (LL + 1 + 1 + 1 + 1, x2) :: (LL + 1 + 1, oS) :: tl, @Ne Nat q.1 dC)
    (ret : ∀ h' tk o' k', Fr gg LL h' (fun y => if y = "i" then some (.int (0 + (i : Int)) ti) else if y = "lift" then some (.int lftV t9) else if y = "closed" then some (.ref dC) else m y) → News gg LL h' ((dC, o') :: (dT, oT) :: (LL + 1 + 1 + 1 + 1, x2) :: (LL + 1 + 1, oS) :: tl) →
      o'.IsDictOf (PySem.strKind PySem.Challenge.rw_wy0040_01.row.toRowW.prog w) k' → DInts k' (tabE (fun j => Wk o s1 k j j) (i + 1)) → Q .next { s with heap := h', toks := tk }) :
    wpAny (model PySem.Challenge.rw_wy0040_01.row.toRowW.prog w) ((ktrTop dp un gd cn cs L fa ccd cl outer).deeper (envOfC "_law_closed" scope LL 271 (.ref 270))) (execs stm (envOfC "_law_closed" scope LL 271 (.ref 270))) Q E s := by
  conv at hb => {rhs; arg 1; whnf}
  conv at hb => {rhs; arg 2; whnf}
  simp only [Prod.mk.injEq] at hb
  obtain ⟨rfl, rfl⟩ := hb
  revert XX
  k_fill
  intro XX
  (repeat' (first | (k_unfold; (try dsimp only)) | ((fail_if_success (with_reducible first | show wpAny _ _ (PySem.call (Value.ref _) _) _ _ _ | show wpAny _ _ (pyIter (Value.ref _)) _ _ _ | show wpAny _ _ (exec (Stmt.For _ _ _ _ _) _) _ _ _ | show wpAny _ _ (subscriptTail _ _ _ _) _ _ _ | show DEnd _ _ _ _ _ _ _ _ _ _ _ _ _ _ | show wpAny _ _ (setItem _ _ _) _ _ _ | show wpAny _ _ (getItem _ _) _ _ _ | show LCg.CompSrc _ _ _ _ _ _ _ _ _ _ _ _ _ _ | show LCg.CompEnd _ _ _ _ _ _ _ _ _ _ _ _ _ _ | show wpAny _ _ (eval (Expr.ListComp _ _ _ _) _) _ _ _ | show wpAny _ _ (eval (Expr.DictComp _ _ _ _ _) _) _ _ _ | show wpAny _ _ (exec (Stmt.Assign _ (Expr.ListComp _ _ _ _) _) _) _ _ _ | show wpAny _ _ (exec (Stmt.Assign _ (Expr.DictComp _ _ _ _ _) _) _) _ _ _ | show _ ≤ _)); (first | walk1 | (dsimp only; walk1)) <;> (try dsimp only)) | (leave1; try dsimp only) | fail "no step"))
  refine KXi.item (n := 8) (by rfl) (by (first | lia | omega)) (by (first | lia | omega)) (by decide) ?_
  intro _
  (repeat' (first | (k_unfold; (try dsimp only)) | ((fail_if_success (with_reducible first | show wpAny _ _ (PySem.call (Value.ref _) _) _ _ _ | show wpAny _ _ (pyIter (Value.ref _)) _ _ _ | show wpAny _ _ (exec (Stmt.For _ _ _ _ _) _) _ _ _ | show wpAny _ _ (subscriptTail _ _ _ _) _ _ _ | show DEnd _ _ _ _ _ _ _ _ _ _ _ _ _ _ | show wpAny _ _ (setItem _ _ _) _ _ _ | show wpAny _ _ (getItem _ _) _ _ _ | show LCg.CompSrc _ _ _ _ _ _ _ _ _ _ _ _ _ _ | show LCg.CompEnd _ _ _ _ _ _ _ _ _ _ _ _ _ _ | show wpAny _ _ (eval (Expr.ListComp _ _ _ _) _) _ _ _ | show wpAny _ _ (eval (Expr.DictComp _ _ _ _ _) _) _ _ _ | show wpAny _ _ (exec (Stmt.Assign _ (Expr.ListComp _ _ _ _) _) _) _ _ _ | show wpAny _ _ (exec (Stmt.Assign _ (Expr.DictComp _ _ _ _ _) _) _) _ _ _ | show _ ≤ _)); (first | walk1 | (dsimp only; walk1)) <;> (try dsimp only)) | (leave1; try dsimp only) | fail "no step"))
  have e0 : (0 : Int) + (i : Int) = (i : Int) := Int.zero_add _
  obtain ⟨tT0, hvT⟩ := (hkT.look (key i)).2 _ hlook
  have hke : PySem.Txt.item stepsT (0 + (i : Int)) = key i := by rw [e0]; rfl
  have bT := Tk_bits (o := o) (j := i) hs1 hs2 hk
  refine kda_item N (by (with_reducible repeat' first | exact List.mem_cons_self .. | refine List.mem_cons_of_mem _ ?_)) hT (by rw [hke]; exact strKind_is _ _ _ _) hvT ?_
  (repeat' (first | (k_unfold; (try dsimp only)) | ((fail_if_success (with_reducible first | show wpAny _ _ (PySem.call (Value.ref _) _) _ _ _ | show wpAny _ _ (pyIter (Value.ref _)) _ _ _ | show wpAny _ _ (exec (Stmt.For _ _ _ _ _) _) _ _ _ | show wpAny _ _ (subscriptTail _ _ _ _) _ _ _ | show DEnd _ _ _ _ _ _ _ _ _ _ _ _ _ _ | show wpAny _ _ (setItem _ _ _) _ _ _ | show wpAny _ _ (getItem _ _) _ _ _ | show LCg.CompSrc _ _ _ _ _ _ _ _ _ _ _ _ _ _ | show LCg.CompEnd _ _ _ _ _ _ _ _ _ _ _ _ _ _ | show wpAny _ _ (eval (Expr.ListComp _ _ _ _) _) _ _ _ | show wpAny _ _ (eval (Expr.DictComp _ _ _ _ _) _) _ _ _ | show wpAny _ _ (exec (Stmt.Assign _ (Expr.ListComp _ _ _ _) _) _) _ _ _ | show wpAny _ _ (exec (Stmt.Assign _ (Expr.DictComp _ _ _ _ _) _) _) _ _ _ | show _ ≤ _)); (first | walk1 | (dsimp only; walk1)) <;> (try dsimp only)) | (leave1; try dsimp only) | fail "no step"))
  (k_dflt (refine' Ok.use ?k1n37 ?k2n37 ?k3n37 ?k4n37 ?k5n37 ?kKn37 ?kCn37 ((cirsh (n := 32 * i) (by (first | lia | omega))).conv (by rw [e0]; rfl)) ?kPn37 ?kapn37 ?kdn37 ?kun37 ?_); (case k1n37 | k2n37 | k3n37 | k4n37 | k5n37 => k_asm); (case kKn37 => exact rfl); (case kCn37 => assumption); (case kPn37 => (repeat' first | exact Picks.nil | (with_reducible exact Pick.head) | apply Picks.cons | apply Pick.tail)); (case kapn37 => (k_whole; unfold Apart; repeat' (first | exact List.forall_mem_nil _ | (refine List.forall_mem_cons.mpr ⟨?_, ?_⟩) | k_ne))); (case kdn37 => (first | exact room1 (by assumption) rfl | exact room0 (by assumption) | ktr_room)); (case kun37 => (first | exact units1 (by assumption) rfl | ktr_units)))
  intro b8 r8 n8 h8 tk8 U8 F8 N8 hp8
  obtain ⟨rfl, t8', rfl⟩ := hp8
  simp only [List.cons_append, List.nil_append, List.append_nil] at N8
  clear U8
  try dsimp only
  (repeat' (first | (k_unfold; (try dsimp only)) | ((fail_if_success (with_reducible first | show wpAny _ _ (PySem.call (Value.ref _) _) _ _ _ | show wpAny _ _ (pyIter (Value.ref _)) _ _ _ | show wpAny _ _ (exec (Stmt.For _ _ _ _ _) _) _ _ _ | show wpAny _ _ (subscriptTail _ _ _ _) _ _ _ | show DEnd _ _ _ _ _ _ _ _ _ _ _ _ _ _ | show wpAny _ _ (setItem _ _ _) _ _ _ | show wpAny _ _ (getItem _ _) _ _ _ | show LCg.CompSrc _ _ _ _ _ _ _ _ _ _ _ _ _ _ | show LCg.CompEnd _ _ _ _ _ _ _ _ _ _ _ _ _ _ | show wpAny _ _ (eval (Expr.ListComp _ _ _ _) _) _ _ _ | show wpAny _ _ (eval (Expr.DictComp _ _ _ _ _) _) _ _ _ | show wpAny _ _ (exec (Stmt.Assign _ (Expr.ListComp _ _ _ _) _) _) _ _ _ | show wpAny _ _ (exec (Stmt.Assign _ (Expr.DictComp _ _ _ _ _) _) _) _ _ _ | show _ ≤ _)); (first | walk1 | (dsimp only; walk1)) <;> (try dsimp only)) | (leave1; try dsimp only) | fail "no step"))
  (k_dflt (refine' Ok.use ?k1n38 ?k2n38 ?k3n38 ?k4n38 ?k5n38 ?kKn38 ?kCn38 (cimod ?bq1 ?bq2 ?bq3) ?kPn38 ?kapn38 ?kdn38 ?kun38 ?_); (case k1n38 | k2n38 | k3n38 | k4n38 | k5n38 => k_asm); (case kKn38 => exact rfl); (case kCn38 => assumption); (case kPn38 => (repeat' first | exact Picks.nil | (with_reducible exact Pick.head) | apply Picks.cons | apply Pick.tail)); (case kapn38 => (k_whole; unfold Apart; repeat' (first | exact List.forall_mem_nil _ | (refine List.forall_mem_cons.mpr ⟨?_, ?_⟩) | k_ne))); (case kdn38 => (first | exact room1 (by assumption) rfl | exact room0 (by assumption) | ktr_room)); (case kun38 => (first | exact units1 (by assumption) rfl | ktr_units)))
  case bq1 => decide
  case bq2 => exact Nat.le_trans (intBits_fdiv_le (Nat.le_trans (intBits_add_le (Nat.le_trans bT (Nat.le_refl _)) (by decide +kernel : Builtin.Int.intBits lftV ≤ 1000)) (Nat.le_refl _))) (by decide)
  case bq3 => decide +kernel
  intro b9 r9 n9 h9 tk9 U9 F9 N9 hp9
  obtain ⟨rfl, t9', rfl⟩ := hp9
  simp only [List.cons_append, List.nil_append, List.append_nil] at N9
  clear U9
  try dsimp only
  (repeat' (first | (k_unfold; (try dsimp only)) | ((fail_if_success (with_reducible first | show wpAny _ _ (PySem.call (Value.ref _) _) _ _ _ | show wpAny _ _ (pyIter (Value.ref _)) _ _ _ | show wpAny _ _ (exec (Stmt.For _ _ _ _ _) _) _ _ _ | show wpAny _ _ (subscriptTail _ _ _ _) _ _ _ | show DEnd _ _ _ _ _ _ _ _ _ _ _ _ _ _ | show wpAny _ _ (setItem _ _ _) _ _ _ | show wpAny _ _ (getItem _ _) _ _ _ | show LCg.CompSrc _ _ _ _ _ _ _ _ _ _ _ _ _ _ | show LCg.CompEnd _ _ _ _ _ _ _ _ _ _ _ _ _ _ | show wpAny _ _ (eval (Expr.ListComp _ _ _ _) _) _ _ _ | show wpAny _ _ (eval (Expr.DictComp _ _ _ _ _) _) _ _ _ | show wpAny _ _ (exec (Stmt.Assign _ (Expr.ListComp _ _ _ _) _) _) _ _ _ | show wpAny _ _ (exec (Stmt.Assign _ (Expr.DictComp _ _ _ _ _) _) _) _ _ _ | show _ ≤ _)); (first | walk1 | (dsimp only; walk1)) <;> (try dsimp only)) | (leave1; try dsimp only) | fail "no step"))
  refine KXi.item (n := 8) (by rfl) (by (first | lia | omega)) (by (first | lia | omega)) (by decide) ?_
  intro _
  (repeat' (first | (k_unfold; (try dsimp only)) | ((fail_if_success (with_reducible first | show wpAny _ _ (PySem.call (Value.ref _) _) _ _ _ | show wpAny _ _ (pyIter (Value.ref _)) _ _ _ | show wpAny _ _ (exec (Stmt.For _ _ _ _ _) _) _ _ _ | show wpAny _ _ (subscriptTail _ _ _ _) _ _ _ | show DEnd _ _ _ _ _ _ _ _ _ _ _ _ _ _ | show wpAny _ _ (setItem _ _ _) _ _ _ | show wpAny _ _ (getItem _ _) _ _ _ | show LCg.CompSrc _ _ _ _ _ _ _ _ _ _ _ _ _ _ | show LCg.CompEnd _ _ _ _ _ _ _ _ _ _ _ _ _ _ | show wpAny _ _ (eval (Expr.ListComp _ _ _ _) _) _ _ _ | show wpAny _ _ (eval (Expr.DictComp _ _ _ _ _) _) _ _ _ | show wpAny _ _ (exec (Stmt.Assign _ (Expr.ListComp _ _ _ _) _) _) _ _ _ | show wpAny _ _ (exec (Stmt.Assign _ (Expr.DictComp _ _ _ _ _) _) _) _ _ _ | show _ ≤ _)); (first | walk1 | (dsimp only; walk1)) <;> (try dsimp only)) | (leave1; try dsimp only) | fail "no step"))
  (rename Fr _ _ _ _ => lF1); (rename News _ _ _ _ => lN1)
  refine kda_set (k := key i) (knd := PySem.strKind _ _) lF1 lN1 (.head nC2) hCd (by rw [hke]; exact strKind_is _ _ _ _) (Nat.le_trans (Nat.le_of_eq hkC.length) ?_) ?_
  case _ => exact Nat.le_trans (by simp only [tabE, List.length_map, List.length_range]; exact Nat.le_of_lt hi) (by decide : 8 ≤ sizeLine)
  intro h' o' F' N' ho'
  clear lF1 lN1
  (repeat' (first | (k_unfold; (try dsimp only)) | ((fail_if_success (with_reducible first | show wpAny _ _ (PySem.call (Value.ref _) _) _ _ _ | show wpAny _ _ (pyIter (Value.ref _)) _ _ _ | show wpAny _ _ (exec (Stmt.For _ _ _ _ _) _) _ _ _ | show LCg.CompSrc _ _ _ _ _ _ _ _ _ _ _ _ _ _ | show LCg.CompEnd _ _ _ _ _ _ _ _ _ _ _ _ _ _ | show wpAny _ _ (eval (Expr.ListComp _ _ _ _) _) _ _ _ | show wpAny _ _ (eval (Expr.DictComp _ _ _ _ _) _) _ _ _ | show wpAny _ _ (exec (Stmt.Assign _ (Expr.ListComp _ _ _ _) _) _) _ _ _ | show wpAny _ _ (exec (Stmt.Assign _ (Expr.DictComp _ _ _ _ _) _) _) _ _ _ | show _ ≤ _)); (first | walk1 | (dsimp only; walk1)) <;> (try dsimp only)) | (leave1; try dsimp only) | fail "no step"))
  have hp := hkC.put (key i) (Wk o s1 k i i)
  rw [tab_put hi rfl] at hp
  have hdg : ((Tk o s1 k i + lftV).fdiv (2 ^ (32 * i))).fmod (2 ^ Int.toNat 32) - 2 ^ Int.toNat 31 = Wk o s1 k i i := tk_digit hs1 hs2 hk hi
  rw [hdg] at ho'
  exact ret _ _ _ _ F' N' ho' (hp _)
end
end
theorem offLC3 : True := by
  w_top off
  exact True.intro
section
open PySem PySem.W PySem.Spec PySem.Calls PyProof.Rows
section
variable {w : World} {p : Program} {loose : List PySem.Str} {mean : ExcName → Option Value} {mg mb : PySem.Str → Option Value}
noncomputable def DistL (l : Led) : Prop := (l.map (·.1)).Nodup
theorem DistL.hd {p : Addr × Obj} {l : Led} (h : DistL (p :: l)) : ∀ q ∈ l, @Ne Nat q.1 p.1 := fun q hq e => (List.nodup_cons.mp h).1 (List.mem_map.mpr ⟨q, hq, e⟩)
theorem DistL.tl {p : Addr × Obj} {l : Led} (h : DistL (p :: l)) : DistL l := (List.nodup_cons.mp h).2
theorem DistL.perm {l l' : Led} (h : DistL l) (p : l.Perm l') : DistL l' := ((p.map fun q : Addr × Obj => q.1).nodup_iff).mp h
theorem DistL.cons {p : Addr × Obj} {l : Led} (h : DistL l) (n : ∀ q ∈ l, @LT.lt Nat _ q.1 p.1) : DistL (p :: l) := List.nodup_cons.mpr ⟨fun hm => by
  obtain ⟨q, hq, e⟩ := List.mem_map.mp hm
  exact Nat.lt_irrefl _ (e ▸ n q hq), h⟩
structure RE where
  d : Addr
  o : Obj
  kv : List (PySem.Str × Value)
  e : Ents
noncomputable abbrev RE.obj (r : RE) : Addr × Obj := (r.d, r.o)
noncomputable abbrev RE.ref (r : RE) : Value := .ref r.d
noncomputable def psum (o : Nat → Nat) (s : Int) : Nat → Int
  | 0 => 0
  | k + 1 => psum o s k + S8 fun i => Wk o s (k + 1) i i
structure RowOk (w : World) (r : RE) : Prop where
  hd : r.o.IsDictOf (PySem.strKind PySem.Challenge.rw_wy0040_01.row.toRowW.prog w) r.kv
  di : DInts r.kv r.e
  nd : Nd r.e
  far : @LT.lt Nat _ 54 r.d
theorem last_at {l ini : List RE} {la : RE} (h : l = ini ++ [la]) : (l.map RE.ref).toArray[((-1 : Int) + ((l.map RE.ref).toArray.size : Int)).toNat]? = some la.ref := by
  subst h
  simp only [List.size_toArray, List.length_map, List.length_append, List.length_cons, List.length_nil, List.getElem?_toArray, List.map_append, List.map_cons, List.map_nil]
  have e : ((-1 : Int) + ((ini.length + (0 + 1) : Nat) : Int)).toNat = (ini.map RE.ref).length := by rw [List.length_map]; (first | lia | omega)
  rw [e, List.getElem?_append_right (Nat.le_refl _)]; simp
theorem fresh_tk {o : Nat → Nat} {s : Int} {k j : Nat} (hj : j < 8) : lookI (freshE o s (Tk o s k) 8) (key j) = some (Tk o s (k + 1) j) := by rw [fresh_all hj, Tk_succ]
theorem DistL.mid {p : Addr × Obj} : ∀ {a b : Led}, DistL (a ++ p :: b) → ∀ q ∈ a ++ b, @Ne Nat q.1 p.1
  | [], _, h => h.hd
  | x :: a, b, h => fun q hq => by
    rcases List.mem_cons.mp hq with rfl | hq
    · exact (h.hd p (List.mem_append_right _ (List.mem_cons_self ..))).symm
    · exact DistL.mid h.tl q hq
theorem DistL.move {a b c d : Addr × Obj} {l l2 : Led} (h : DistL (a :: b :: c :: (l ++ l2))) (hn : ∀ q ∈ a :: b :: (l ++ l2), @LT.lt Nat _ q.1 d.1) : DistL (b :: a :: (l ++ d :: l2)) := by
  have h1 : DistL (d :: a :: b :: (l ++ l2)) := DistL.cons (List.nodup_cons.mpr ⟨fun hm => (List.nodup_cons.mp h).1 (by
    rcases List.mem_cons.mp hm with e | hm
    · exact e ▸ List.mem_cons_self ..
    · exact List.mem_cons_of_mem _ (List.mem_cons_of_mem _ hm)), List.nodup_cons.mpr ⟨fun hm => (List.nodup_cons.mp h.tl).1 (List.mem_cons_of_mem _ hm), h.tl.tl.tl⟩⟩) hn
  refine h1.perm ?_
  refine (List.Perm.trans ?_ (List.Perm.swap b a _))
  refine (List.Perm.swap a d _).trans (List.Perm.cons a ((List.Perm.swap b d _).trans (List.Perm.cons b List.perm_middle.symm)))
theorem DistL.midA {p : Addr × Obj} {a b : Led} (h : DistL (a ++ p :: b)) : ∀ x ∈ (a ++ b).map (·.1), @Ne Nat p.1 x := fun x hx => by
  obtain ⟨q, hq, rfl⟩ := List.mem_map.mp hx
  exact (h.mid q hq).symm
inductive StJ (w : World) (o : Nat → Nat) (s1 : Int) (k : Nat) (t9 : Tok) (LL dT RW aA i6 : Addr) (oT x1 x2 o5 oA oR oS : Obj) (r0 : RE) (rt : List RE) (cp : Nat) (tl : Led) (r : List Nat) (m' : PySem.Str → Option Value) (n' : Led) : Prop
  | mk (i : Nat) (df : Addr) (of : Obj) (kf : List (PySem.Str × Value)) (x1' : Obj) (u1' : Option Value) (hr : r = (List.range 8).drop i) (hi : i ≤ 8) (a1 : m' "fresh" = some (.ref df)) (a2 : m' "lift" = some (.int lftV t9)) (hf : of.IsDictOf (PySem.strKind PySem.Challenge.rw_wy0040_01.row.toRowW.prog w) kf) (hk : DInts kf (freshE o s1 (Tk o s1 k) i)) (lf : @LT.lt Nat _ 54 df) (hx : x1'.data = .cell u1')
      (hd : df = r0.d ∧ of = r0.o ∧ i = 0 ∨ ∀ a ∈ i6 :: ((LL + 1 + 1 + 1 + 1 + 1, x1) :: (dT, oT) :: (LL + 1 + 1 + 1 + 1, x2) :: (LL + 1, o5) :: (aA, oA) :: (RW, lstC (r0.ref :: rt.map RE.ref) cp) :: (LL + 1 + 1 + 1, oR) :: (LL + 1 + 1, oS) :: r0.obj :: (rt.map RE.obj ++ tl)).map (·.1), @Ne Nat df a) (e : n' = (df, of) :: (LL + 1 + 1 + 1 + 1 + 1, x1') :: (dT, oT) :: (LL + 1 + 1 + 1 + 1, x2) :: (LL + 1, o5) :: (aA, oA) :: (RW, lstC (r0.ref :: rt.map RE.ref) cp) :: (LL + 1 + 1 + 1, oR) :: (LL + 1 + 1, oS) :: r0.obj :: (rt.map RE.obj ++ tl))
set_option maxHeartbeats 4000000 in
theorem lcSteps {stm : List Stmt} {scope : Scope} (hb : (stm, scope) = (forBody 1 (forBody 4 (topFn 25).1), (topFn 25).2)) {o : Nat → Nat} {s1 : Int} (hs1 : -3 ≤ s1) (hs2 : s1 ≤ 4) {k : Nat} (hk : k < 5)
    {dp un : Nat} {gd : Option (List Code)} {cn : PySem.Str} {cs : Scope} {L fa LL : Addr} {ccd : Value} {cl : List (PySem.Str × Addr)} {outer : List Env} {base gg : Heap} {m : PySem.Str → Option Value} {s : Shared} {E : Value → Shared → Prop} {Q : Flow → Shared → Prop}
    {RW dT aA : Addr} {oT oA x1 x2 oR oS o5 : Obj} {kT kA : List (PySem.Str × Value)} {eT : Ents} {ds : List IE} {tl : Led} {r0 : RE} {rt : List RE} {cp : Nat} {t9 : Tok} {u1 : Option Value} {ps : Pos}
    (BB : Below (ktrTop dp un gd cn cs L fa ccd cl outer) base (envX cn cs L fa ccd cl :: outer) gg) (XX : (Mine.hd.heap_1 w.params).In gg) (TT : Top p loose mean mg mb gg) (hC : Codes base) (l54 : @LT.lt Nat _ 54 LL) (hd : dp + 150 < recursionLimit) (hu : un + 8 * 150 < cLine)
    (nd : DistL ((LL + 1 + 1 + 1 + 1 + 1, x1) :: (dT, oT) :: (LL + 1 + 1 + 1 + 1, x2) :: (LL + 1, o5) :: (aA, oA) :: (RW, lstC (r0.ref :: rt.map RE.ref) cp) :: (LL + 1 + 1 + 1, oR) :: (LL + 1 + 1, oS) :: r0.obj :: (rt.map RE.obj ++ tl)))
    (hT : oT.IsDictOf (PySem.strKind PySem.Challenge.rw_wy0040_01.row.toRowW.prog w) kT) (hkT : DInts kT eT) (hlook : ∀ j, j < 8 → lookI eT (key j) = some (Tk o s1 k j))
    (dx1 : x1.data = .cell u1) (dx2 : x2.data = .cell (some (.ref dT))) (dx5 : o5.data = .cell (some (.ref aA)))
    (hA : oA.IsDictOf (PySem.strKind PySem.Challenge.rw_wy0040_01.row.toRowW.prog w) kA) (aft : AftIs w o s1 kA ds) (hRs : Rests gg (ds.map IE.obj))
    (hR0 : RowOk w r0) (hr0 : r0.e = [])
    (ret : ∀ h' tk m' df of kf x1' u1', m' "fresh" = some (.ref df) → m' "lift" = some (.int lftV t9) → Fr gg LL h' m' → News gg LL h' ((df, of) :: (LL + 1 + 1 + 1 + 1 + 1, x1') :: (dT, oT) :: (LL + 1 + 1 + 1 + 1, x2) :: (LL + 1, o5) :: (aA, oA) :: (RW, lstC (r0.ref :: rt.map RE.ref) cp) :: (LL + 1 + 1 + 1, oR) :: (LL + 1 + 1, oS) :: r0.obj :: (rt.map RE.obj ++ tl)) → DistL ((df, of) :: (LL + 1 + 1 + 1 + 1 + 1, x1') :: (dT, oT) :: (LL + 1 + 1 + 1 + 1, x2) :: (LL + 1, o5) :: (aA, oA) :: (RW, lstC (r0.ref :: rt.map RE.ref) cp) :: (LL + 1 + 1 + 1, oR) :: (LL + 1 + 1, oS) :: r0.obj :: (rt.map RE.obj ++ tl)) → @LT.lt Nat _ 54 df →
      of.IsDictOf (PySem.strKind PySem.Challenge.rw_wy0040_01.row.toRowW.prog w) kf → DInts kf (freshE o s1 (Tk o s1 k) 8) → x1'.data = .cell u1' → Q .next { s with heap := h', toks := tk }) :
    ∀ I : Addr, (∀ p ∈ r0.obj :: (LL + 1 + 1 + 1 + 1 + 1, x1) :: (dT, oT) :: (LL + 1 + 1 + 1 + 1, x2) :: (LL + 1, o5) :: (aA, oA) :: (RW, lstC (r0.ref :: rt.map RE.ref) cp) :: (LL + 1 + 1 + 1, oR) :: (LL + 1 + 1, oS) :: r0.obj :: (rt.map RE.obj ++ tl), p.1 < I) → ItemsRest PySem.Challenge.rw_wy0040_01.row.toRowW.prog w ((ktrTop dp un gd cn cs L fa ccd cl outer).deeper (envOfC "_law_closed" scope LL 271 (.ref 270))) E gg (envOfC "_law_closed" scope LL 271 (.ref 270)) (.Name "step" ps) stm Q s [(I, "str_ascii_iterator")] [] ((List.range 8).map fun i => Itm.tok fun u => Value.str (key i) u)
      (fun y => if y = "fresh" then some r0.ref else if y = "lift" then some (.int lftV t9) else m y) (r0.obj :: (LL + 1 + 1 + 1 + 1 + 1, x1) :: (dT, oT) :: (LL + 1 + 1 + 1 + 1, x2) :: (LL + 1, o5) :: (aA, oA) :: (RW, lstC (r0.ref :: rt.map RE.ref) cp) :: (LL + 1 + 1 + 1, oR) :: (LL + 1 + 1, oS) :: r0.obj :: (rt.map RE.obj ++ tl)) := by
  intro i6 l6
  have hlc := hb
  conv at hb => {rhs; arg 1; whnf}
  conv at hb => {rhs; arg 2; whnf}
  simp only [Prod.mk.injEq] at hb
  obtain ⟨rfl, rfl⟩ := hb
  revert XX
  k_fill
  intro XX
  refine itms_ind (fun i => Itm.tok fun u => .str (key i) u) (StJ w o s1 k t9 LL dT RW aA i6 oT x1 x2 o5 oA oR oS r0 rt cp tl) ?s0 ?s1 _ _ _ ?si
  case si =>
    have h0 := hR0.di
    rw [hr0] at h0
    exact ⟨0, r0.d, r0.o, r0.kv, x1, u1, rfl, Nat.zero_le _, rfl, rfl, hR0.hd, h0, hR0.far, dx1, .inl ⟨rfl, rfl, rfl⟩, rfl⟩
  case s1 =>
    rintro i0 r m2 n2 ⟨i, df, of, kf, x1', u1', hr, hi8, b1, b2, hf, hkf, lf, dx1', hX, rfl⟩ v2 it2 h2 tk2 ⟨u2', rfl⟩ hcl2 F2 N2
    have hi : i < 8 := by
      rcases Nat.lt_or_ge i 8 with q | q
      · exact q
      · rw [List.drop_of_length_le (by simpa using q)] at hr; cases hr
    rw [range_drop hi] at hr
    obtain ⟨rfl, rfl⟩ := List.cons.inj hr
    replace F2 := see2 F2 (x1 := "fresh") (x2 := "lift") b1 b2
    walk1
    have hX5 : @Ne Nat df (LL + 1 + 1 + 1 + 1 + 1) := by
      rcases hX with ⟨rfl, -, -⟩ | hX
      · exact nd.hd r0.obj (by kl_some)
      · exact hX _ (List.mem_cons_of_mem _ (List.mem_cons_self ..))
    have nx : ∀ q ∈ (i6, it2) :: (df, of) :: (dT, oT) :: (LL + 1 + 1 + 1 + 1, x2) :: (LL + 1, o5) :: (aA, oA) :: (RW, lstC (r0.ref :: rt.map RE.ref) cp) :: (LL + 1 + 1 + 1, oR) :: (LL + 1 + 1, oS) :: r0.obj :: (rt.map RE.obj ++ tl), @Ne Nat q.1 (LL + 1 + 1 + 1 + 1 + 1) :=
      List.forall_mem_cons.mpr ⟨Nat.ne_of_gt (l6 (LL + 1 + 1 + 1 + 1 + 1, x1) (by kl_some)), List.forall_mem_cons.mpr ⟨hX5, nd.hd⟩⟩
    refine storeX_C F2 (cb_drop (news := (LL + 1 + 1 + 1 + 1 + 1, x1') :: (i6, it2) :: (df, of) :: (dT, oT) :: (LL + 1 + 1 + 1 + 1, x2) :: (LL + 1, o5) :: (aA, oA) :: (RW, lstC (r0.ref :: rt.map RE.ref) cp) :: (LL + 1 + 1 + 1, oR) :: (LL + 1 + 1, oS) :: r0.obj :: (rt.map RE.obj ++ tl)) N2 (subB [[(i6, it2)], [(df, of)], [(LL + 1 + 1 + 1 + 1 + 1, x1')], [(dT, oT)], [(LL + 1 + 1 + 1 + 1, x2)], [(LL + 1, o5)], [(aA, oA)], [(RW, lstC (r0.ref :: rt.map RE.ref) cp)], [(LL + 1 + 1 + 1, oR)], [(LL + 1 + 1, oS)], [r0.obj], rt.map RE.obj, tl] 12 [2, 0, 1, 3, 4, 5, 6, 7, 8, 9, 10, 11] 12 [0, 1, 2, 3, 4, 5, 6, 7, 8, 9, 10, 11] rfl : ∀ q ∈ (LL + 1 + 1 + 1 + 1 + 1, x1') :: (i6, it2) :: (df, of) :: (dT, oT) :: (LL + 1 + 1 + 1 + 1, x2) :: (LL + 1, o5) :: (aA, oA) :: (RW, lstC (r0.ref :: rt.map RE.ref) cp) :: (LL + 1 + 1 + 1, oR) :: (LL + 1 + 1, oS) :: r0.obj :: (rt.map RE.obj ++ tl), q ∈ (i6, it2) :: (df, of) :: (LL + 1 + 1 + 1 + 1 + 1, x1') :: (dT, oT) :: (LL + 1 + 1 + 1 + 1, x2) :: (LL + 1, o5) :: (aA, oA) :: (RW, lstC (r0.ref :: rt.map RE.ref) cp) :: (LL + 1 + 1 + 1, oR) :: (LL + 1 + 1, oS) :: r0.obj :: (rt.map RE.obj ++ tl))) rfl (.head nx) dx1' ?_
    intro h4 x4 F4 N4 d4
    obtain ⟨R0, r1, r2, r3⟩ : ∃ R0 : Led, (∀ q ∈ (df, of) :: R0, q ∈ (dT, oT) :: (LL + 1 + 1 + 1 + 1 + 1, x4) :: (LL + 1 + 1 + 1 + 1, x2) :: (LL + 1, o5) :: (aA, oA) :: (i6, it2) :: (df, of) :: (RW, lstC (r0.ref :: rt.map RE.ref) cp) :: (LL + 1 + 1 + 1, oR) :: (LL + 1 + 1, oS) :: r0.obj :: (rt.map RE.obj ++ tl)) ∧
        (∀ q ∈ (dT, oT) :: (LL + 1 + 1 + 1 + 1 + 1, x4) :: (LL + 1 + 1 + 1 + 1, x2) :: (LL + 1, o5) :: (aA, oA) :: (i6, it2) :: (df, of) :: (RW, lstC (r0.ref :: rt.map RE.ref) cp) :: (LL + 1 + 1 + 1, oR) :: (LL + 1 + 1, oS) :: r0.obj :: (rt.map RE.obj ++ tl), q ∈ (df, of) :: R0) ∧ (∀ q ∈ R0, @Ne Nat df q.1) := by
      rcases hX with ⟨rfl, rfl, rfl⟩ | hX
      · have hy := DistL.midA (a := [(LL + 1 + 1 + 1 + 1 + 1, x1), (dT, oT), (LL + 1 + 1 + 1 + 1, x2), (LL + 1, o5), (aA, oA), (RW, lstC (r0.ref :: rt.map RE.ref) cp), (LL + 1 + 1 + 1, oR), (LL + 1 + 1, oS)]) nd
        have hi6 : @Ne Nat r0.d i6 := Nat.ne_of_lt (l6 r0.obj (by kl_some))
        have hz : ∀ a ∈ dT :: (LL + 1 + 1 + 1 + 1 + 1) :: (LL + 1 + 1 + 1 + 1) :: (LL + 1) :: aA :: i6 :: RW :: (LL + 1 + 1 + 1) :: (LL + 1 + 1) :: (rt.map RE.obj ++ tl).map (·.1), @Ne Nat r0.d a :=
          fun a ha => (List.forall_mem_cons (p := fun a => @Ne Nat r0.d a)).mpr ⟨hi6, hy⟩ a ((subB [[i6], [(LL + 1 + 1 + 1 + 1 + 1)], [dT], [(LL + 1 + 1 + 1 + 1)], [(LL + 1)], [aA], [RW], [(LL + 1 + 1 + 1)], [(LL + 1 + 1)], (rt.map RE.obj ++ tl).map (fun q : Addr × Obj => q.1)] 9 [2, 1, 3, 4, 5, 0, 6, 7, 8] 9 [0, 1, 2, 3, 4, 5, 6, 7, 8] rfl : ∀ q ∈ dT :: (LL + 1 + 1 + 1 + 1 + 1) :: (LL + 1 + 1 + 1 + 1) :: (LL + 1) :: aA :: i6 :: RW :: (LL + 1 + 1 + 1) :: (LL + 1 + 1) :: (rt.map RE.obj ++ tl).map (fun q : Addr × Obj => q.1), q ∈ i6 :: (LL + 1 + 1 + 1 + 1 + 1) :: dT :: (LL + 1 + 1 + 1 + 1) :: (LL + 1) :: aA :: RW :: (LL + 1 + 1 + 1) :: (LL + 1 + 1) :: (rt.map RE.obj ++ tl).map (fun q : Addr × Obj => q.1)) a ha)
        refine ⟨(dT, oT) :: (LL + 1 + 1 + 1 + 1 + 1, x4) :: (LL + 1 + 1 + 1 + 1, x2) :: (LL + 1, o5) :: (aA, oA) :: (i6, it2) :: (RW, lstC (r0.ref :: rt.map RE.ref) cp) :: (LL + 1 + 1 + 1, oR) :: (LL + 1 + 1, oS) :: (rt.map RE.obj ++ tl), (subB [[(dT, oT)], [(LL + 1 + 1 + 1 + 1 + 1, x4)], [(LL + 1 + 1 + 1 + 1, x2)], [(LL + 1, o5)], [(aA, oA)], [(i6, it2)], [r0.obj], [(RW, lstC (r0.ref :: rt.map RE.ref) cp)], [(LL + 1 + 1 + 1, oR)], [(LL + 1 + 1, oS)], rt.map RE.obj, tl] 11 [6, 0, 1, 2, 3, 4, 5, 7, 8, 9, 10] 11 [0, 1, 2, 3, 4, 5, 6, 7, 8, 9, 6, 10] rfl : ∀ q ∈ r0.obj :: (dT, oT) :: (LL + 1 + 1 + 1 + 1 + 1, x4) :: (LL + 1 + 1 + 1 + 1, x2) :: (LL + 1, o5) :: (aA, oA) :: (i6, it2) :: (RW, lstC (r0.ref :: rt.map RE.ref) cp) :: (LL + 1 + 1 + 1, oR) :: (LL + 1 + 1, oS) :: (rt.map RE.obj ++ tl), q ∈ (dT, oT) :: (LL + 1 + 1 + 1 + 1 + 1, x4) :: (LL + 1 + 1 + 1 + 1, x2) :: (LL + 1, o5) :: (aA, oA) :: (i6, it2) :: r0.obj :: (RW, lstC (r0.ref :: rt.map RE.ref) cp) :: (LL + 1 + 1 + 1, oR) :: (LL + 1 + 1, oS) :: r0.obj :: (rt.map RE.obj ++ tl)), (subB [[r0.obj], [(dT, oT)], [(LL + 1 + 1 + 1 + 1 + 1, x4)], [(LL + 1 + 1 + 1 + 1, x2)], [(LL + 1, o5)], [(aA, oA)], [(i6, it2)], [(RW, lstC (r0.ref :: rt.map RE.ref) cp)], [(LL + 1 + 1 + 1, oR)], [(LL + 1 + 1, oS)], rt.map RE.obj, tl] 11 [1, 2, 3, 4, 5, 6, 0, 7, 8, 9, 0, 10] 11 [0, 1, 2, 3, 4, 5, 6, 7, 8, 9, 10] rfl : ∀ q ∈ (dT, oT) :: (LL + 1 + 1 + 1 + 1 + 1, x4) :: (LL + 1 + 1 + 1 + 1, x2) :: (LL + 1, o5) :: (aA, oA) :: (i6, it2) :: r0.obj :: (RW, lstC (r0.ref :: rt.map RE.ref) cp) :: (LL + 1 + 1 + 1, oR) :: (LL + 1 + 1, oS) :: r0.obj :: (rt.map RE.obj ++ tl), q ∈ r0.obj :: (dT, oT) :: (LL + 1 + 1 + 1 + 1 + 1, x4) :: (LL + 1 + 1 + 1 + 1, x2) :: (LL + 1, o5) :: (aA, oA) :: (i6, it2) :: (RW, lstC (r0.ref :: rt.map RE.ref) cp) :: (LL + 1 + 1 + 1, oR) :: (LL + 1 + 1, oS) :: (rt.map RE.obj ++ tl)), ?_⟩
        exact fun q hq => hz q.1 (List.mem_map_of_mem hq)
      · refine ⟨(dT, oT) :: (LL + 1 + 1 + 1 + 1 + 1, x4) :: (LL + 1 + 1 + 1 + 1, x2) :: (LL + 1, o5) :: (aA, oA) :: (i6, it2) :: (RW, lstC (r0.ref :: rt.map RE.ref) cp) :: (LL + 1 + 1 + 1, oR) :: (LL + 1 + 1, oS) :: r0.obj :: (rt.map RE.obj ++ tl), (subB [[(dT, oT)], [(LL + 1 + 1 + 1 + 1 + 1, x4)], [(LL + 1 + 1 + 1 + 1, x2)], [(LL + 1, o5)], [(aA, oA)], [(i6, it2)], [(df, of)], [(RW, lstC (r0.ref :: rt.map RE.ref) cp)], [(LL + 1 + 1 + 1, oR)], [(LL + 1 + 1, oS)], [r0.obj], rt.map RE.obj, tl] 12 [6, 0, 1, 2, 3, 4, 5, 7, 8, 9, 10, 11] 12 [0, 1, 2, 3, 4, 5, 6, 7, 8, 9, 10, 11] rfl : ∀ q ∈ (df, of) :: (dT, oT) :: (LL + 1 + 1 + 1 + 1 + 1, x4) :: (LL + 1 + 1 + 1 + 1, x2) :: (LL + 1, o5) :: (aA, oA) :: (i6, it2) :: (RW, lstC (r0.ref :: rt.map RE.ref) cp) :: (LL + 1 + 1 + 1, oR) :: (LL + 1 + 1, oS) :: r0.obj :: (rt.map RE.obj ++ tl), q ∈ (dT, oT) :: (LL + 1 + 1 + 1 + 1 + 1, x4) :: (LL + 1 + 1 + 1 + 1, x2) :: (LL + 1, o5) :: (aA, oA) :: (i6, it2) :: (df, of) :: (RW, lstC (r0.ref :: rt.map RE.ref) cp) :: (LL + 1 + 1 + 1, oR) :: (LL + 1 + 1, oS) :: r0.obj :: (rt.map RE.obj ++ tl)), (subB [[(df, of)], [(dT, oT)], [(LL + 1 + 1 + 1 + 1 + 1, x4)], [(LL + 1 + 1 + 1 + 1, x2)], [(LL + 1, o5)], [(aA, oA)], [(i6, it2)], [(RW, lstC (r0.ref :: rt.map RE.ref) cp)], [(LL + 1 + 1 + 1, oR)], [(LL + 1 + 1, oS)], [r0.obj], rt.map RE.obj, tl] 12 [1, 2, 3, 4, 5, 6, 0, 7, 8, 9, 10, 11] 12 [0, 1, 2, 3, 4, 5, 6, 7, 8, 9, 10, 11] rfl : ∀ q ∈ (dT, oT) :: (LL + 1 + 1 + 1 + 1 + 1, x4) :: (LL + 1 + 1 + 1 + 1, x2) :: (LL + 1, o5) :: (aA, oA) :: (i6, it2) :: (df, of) :: (RW, lstC (r0.ref :: rt.map RE.ref) cp) :: (LL + 1 + 1 + 1, oR) :: (LL + 1 + 1, oS) :: r0.obj :: (rt.map RE.obj ++ tl), q ∈ (df, of) :: (dT, oT) :: (LL + 1 + 1 + 1 + 1 + 1, x4) :: (LL + 1 + 1 + 1 + 1, x2) :: (LL + 1, o5) :: (aA, oA) :: (i6, it2) :: (RW, lstC (r0.ref :: rt.map RE.ref) cp) :: (LL + 1 + 1 + 1, oR) :: (LL + 1 + 1, oS) :: r0.obj :: (rt.map RE.obj ++ tl)), fun q hq => hX q.1 ((subB [[i6], [(LL + 1 + 1 + 1 + 1 + 1)], [dT], [(LL + 1 + 1 + 1 + 1)], [(LL + 1)], [aA], [RW], [(LL + 1 + 1 + 1)], [(LL + 1 + 1)], [r0.d], (rt.map RE.obj ++ tl).map (fun q : Addr × Obj => q.1)] 10 [2, 1, 3, 4, 5, 0, 6, 7, 8, 9] 10 [0, 1, 2, 3, 4, 5, 6, 7, 8, 9] rfl : ∀ q ∈ dT :: (LL + 1 + 1 + 1 + 1 + 1) :: (LL + 1 + 1 + 1 + 1) :: (LL + 1) :: aA :: i6 :: RW :: (LL + 1 + 1 + 1) :: (LL + 1 + 1) :: r0.d :: (rt.map RE.obj ++ tl).map (fun q : Addr × Obj => q.1), q ∈ i6 :: (LL + 1 + 1 + 1 + 1 + 1) :: dT :: (LL + 1 + 1 + 1 + 1) :: (LL + 1) :: aA :: RW :: (LL + 1 + 1 + 1) :: (LL + 1 + 1) :: r0.d :: (rt.map RE.obj ++ tl).map (fun q : Addr × Obj => q.1)) q.1 (List.mem_map_of_mem hq))⟩
    refine lcStep hlc hs1 hs2 hk hi BB XX TT hC l54 hd hu F4 (cb_drop (news := (dT, oT) :: (LL + 1 + 1 + 1 + 1 + 1, x4) :: (LL + 1 + 1 + 1 + 1, x2) :: (LL + 1, o5) :: (aA, oA) :: (i6, it2) :: (df, of) :: (RW, lstC (r0.ref :: rt.map RE.ref) cp) :: (LL + 1 + 1 + 1, oR) :: (LL + 1 + 1, oS) :: r0.obj :: (rt.map RE.obj ++ tl)) N4 (subB [[(LL + 1 + 1 + 1 + 1 + 1, x4)], [(i6, it2)], [(df, of)], [(dT, oT)], [(LL + 1 + 1 + 1 + 1, x2)], [(LL + 1, o5)], [(aA, oA)], [(RW, lstC (r0.ref :: rt.map RE.ref) cp)], [(LL + 1 + 1 + 1, oR)], [(LL + 1 + 1, oS)], [r0.obj], rt.map RE.obj, tl] 12 [3, 0, 4, 5, 6, 1, 2, 7, 8, 9, 10, 11] 12 [0, 1, 2, 3, 4, 5, 6, 7, 8, 9, 10, 11] rfl : ∀ q ∈ (dT, oT) :: (LL + 1 + 1 + 1 + 1 + 1, x4) :: (LL + 1 + 1 + 1 + 1, x2) :: (LL + 1, o5) :: (aA, oA) :: (i6, it2) :: (df, of) :: (RW, lstC (r0.ref :: rt.map RE.ref) cp) :: (LL + 1 + 1 + 1, oR) :: (LL + 1 + 1, oS) :: r0.obj :: (rt.map RE.obj ++ tl), q ∈ (LL + 1 + 1 + 1 + 1 + 1, x4) :: (i6, it2) :: (df, of) :: (dT, oT) :: (LL + 1 + 1 + 1 + 1, x2) :: (LL + 1, o5) :: (aA, oA) :: (RW, lstC (r0.ref :: rt.map RE.ref) cp) :: (LL + 1 + 1 + 1, oR) :: (LL + 1 + 1, oS) :: r0.obj :: (rt.map RE.obj ++ tl))) hT hkT (hlook _ hi) d4 dx2 dx5 hA aft hRs hf hkf lf r1 r2 r3 ?_
    intro h6 tk6 d6 o6 k6 F6 N6 U6 hd6 hk6
    refine ⟨h6, tk6, _, (d6, o6) :: (LL + 1 + 1 + 1 + 1 + 1, x4) :: (dT, oT) :: (LL + 1 + 1 + 1 + 1, x2) :: (LL + 1, o5) :: (aA, oA) :: (RW, lstC (r0.ref :: rt.map RE.ref) cp) :: (LL + 1 + 1 + 1, oR) :: (LL + 1 + 1, oS) :: r0.obj :: (rt.map RE.obj ++ tl), rfl, F6, cb_drop (news := (i6, it2) :: (d6, o6) :: (LL + 1 + 1 + 1 + 1 + 1, x4) :: (dT, oT) :: (LL + 1 + 1 + 1 + 1, x2) :: (LL + 1, o5) :: (aA, oA) :: (RW, lstC (r0.ref :: rt.map RE.ref) cp) :: (LL + 1 + 1 + 1, oR) :: (LL + 1 + 1, oS) :: r0.obj :: (rt.map RE.obj ++ tl)) N6 (subB [[(d6, o6)], [(dT, oT)], [(LL + 1 + 1 + 1 + 1 + 1, x4)], [(LL + 1 + 1 + 1 + 1, x2)], [(LL + 1, o5)], [(aA, oA)], [(i6, it2)], [(df, of)], [(RW, lstC (r0.ref :: rt.map RE.ref) cp)], [(LL + 1 + 1 + 1, oR)], [(LL + 1 + 1, oS)], [r0.obj], rt.map RE.obj, tl] 13 [6, 0, 2, 1, 3, 4, 5, 8, 9, 10, 11, 12] 13 [0, 1, 2, 3, 4, 5, 6, 7, 8, 9, 10, 11, 12] rfl : ∀ q ∈ (i6, it2) :: (d6, o6) :: (LL + 1 + 1 + 1 + 1 + 1, x4) :: (dT, oT) :: (LL + 1 + 1 + 1 + 1, x2) :: (LL + 1, o5) :: (aA, oA) :: (RW, lstC (r0.ref :: rt.map RE.ref) cp) :: (LL + 1 + 1 + 1, oR) :: (LL + 1 + 1, oS) :: r0.obj :: (rt.map RE.obj ++ tl), q ∈ (d6, o6) :: (dT, oT) :: (LL + 1 + 1 + 1 + 1 + 1, x4) :: (LL + 1 + 1 + 1 + 1, x2) :: (LL + 1, o5) :: (aA, oA) :: (i6, it2) :: (df, of) :: (RW, lstC (r0.ref :: rt.map RE.ref) cp) :: (LL + 1 + 1 + 1, oR) :: (LL + 1 + 1, oS) :: r0.obj :: (rt.map RE.obj ++ tl)), ?_, trivial, i0 + 1, d6, o6, k6, x4, _, rfl, hi, rfl, ?_, hd6, hk6, ?_, d4, .inr ?_, rfl⟩
    · intro p hp q hq
      rw [List.mem_singleton.mp hq]
      rcases List.mem_cons.mp hp with rfl | hp
      · exact Nat.ne_of_gt (U6 (i6, it2) (by kl_some))
      rcases List.mem_cons.mp hp with rfl | hp
      · exact Nat.ne_of_lt (l6 (LL + 1 + 1 + 1 + 1 + 1, x1) (by kl_some))
      · exact Nat.ne_of_lt (l6 p (List.mem_cons_of_mem _ (List.mem_cons_of_mem _ hp)))
    · rfl
    · exact Nat.lt_trans (Nat.lt_succ_of_lt l54) (U6 (LL + 1, o5) (by kl_some))
    · intro a ha
      rcases List.mem_cons.mp ha with rfl | ha
      · exact Nat.ne_of_gt (U6 (a, it2) (by kl_some))
      rcases List.mem_cons.mp ha with rfl | ha
      · exact Nat.ne_of_gt (U6 (LL + 1 + 1 + 1 + 1 + 1, x4) (by kl_some))
      obtain ⟨q, hq, rfl⟩ := List.mem_map.mp ha
      exact Nat.ne_of_gt (U6 q ((subB [[(dT, oT)], [(LL + 1 + 1 + 1 + 1 + 1, x4)], [(LL + 1 + 1 + 1 + 1, x2)], [(LL + 1, o5)], [(aA, oA)], [(i6, it2)], [(df, of)], [(RW, lstC (r0.ref :: rt.map RE.ref) cp)], [(LL + 1 + 1 + 1, oR)], [(LL + 1 + 1, oS)], [r0.obj], rt.map RE.obj, tl] 12 [0, 2, 3, 4, 7, 8, 9, 10, 11] 12 [0, 1, 2, 3, 4, 5, 6, 7, 8, 9, 10, 11] rfl : ∀ q ∈ (dT, oT) :: (LL + 1 + 1 + 1 + 1, x2) :: (LL + 1, o5) :: (aA, oA) :: (RW, lstC (r0.ref :: rt.map RE.ref) cp) :: (LL + 1 + 1 + 1, oR) :: (LL + 1 + 1, oS) :: r0.obj :: (rt.map RE.obj ++ tl), q ∈ (dT, oT) :: (LL + 1 + 1 + 1 + 1 + 1, x4) :: (LL + 1 + 1 + 1 + 1, x2) :: (LL + 1, o5) :: (aA, oA) :: (i6, it2) :: (df, of) :: (RW, lstC (r0.ref :: rt.map RE.ref) cp) :: (LL + 1 + 1 + 1, oR) :: (LL + 1 + 1, oS) :: r0.obj :: (rt.map RE.obj ++ tl)) q hq))
  case s0 =>
    rintro m1 n1 ⟨i, df, of, kf, x1', u1', hr, hi8, b1, b2, hf, hkf, lf, dx1', hX, rfl⟩ h2 tk2 F2 N2
    have hi : i = 8 := by
      rcases Nat.lt_or_ge i 8 with q | q
      · rw [range_drop q] at hr; cases hr
      · exact Nat.le_antisymm hi8 q
    subst hi
    rcases hX with ⟨-, -, h⟩ | hX
    · cases h
    · exact ret _ _ _ _ _ _ _ _ b1 b2 F2 N2 (List.nodup_cons.mpr ⟨fun hm => hX df (List.mem_cons_of_mem _ hm) rfl, nd⟩) lf hf hkf dx1'
end
end
theorem offLC4 : True := by
  w_top off
  exact True.intro
section
open PySem PySem.W PySem.Spec PySem.Calls PyProof.Rows
section
variable {w : World} {p : Program} {loose : List PySem.Str} {mean : ExcName → Option Value} {mg mb : PySem.Str → Option Value}
inductive CfJ (w : World) (o : Nat → Nat) (s1 : Int) (k : Nat) (t9 : Tok) (dC df LL aA RW : Addr) (of x2' oS x1' o5 oA oR : Obj) (r0 : RE) (rt : List RE) (cp : Nat) (tl : Led) (i : Nat) (m' : PySem.Str → Option Value) (n' : Led) : Prop
  | mk (oC : Obj) (kC : List (PySem.Str × Value)) (a1 : m' "lift" = some (.int lftV t9)) (a2 : m' "closed" = some (.ref dC)) (hC : oC.IsDictOf (PySem.strKind PySem.Challenge.rw_wy0040_01.row.toRowW.prog w) kC) (hk : DInts kC (tabE (fun j => Wk o s1 (k + 1) j j) i)) (e : n' = (dC, oC) :: (df, of) :: (LL + 1 + 1 + 1 + 1, x2') :: (LL + 1 + 1, oS) :: (LL + 1 + 1 + 1 + 1 + 1, x1') :: (LL + 1, o5) :: (aA, oA) :: (RW, lstC (r0.ref :: rt.map RE.ref) cp) :: (LL + 1 + 1 + 1, oR) :: r0.obj :: (rt.map RE.obj ++ tl))
set_option maxHeartbeats 4000000 in
theorem lcTurn {stm : List Stmt} {scope : Scope} (hb : (stm, scope) = (forBody 4 (topFn 25).1, (topFn 25).2)) {o : Nat → Nat} {s1 : Int} (hs1 : -3 ≤ s1) (hs2 : s1 ≤ 4) {k : Nat} (hk : k < 5)
    {dp un : Nat} {gd : Option (List Code)} {cn : PySem.Str} {cs : Scope} {L fa LL : Addr} {ccd : Value} {cl : List (PySem.Str × Addr)} {outer : List Env} {base gg : Heap} {m : PySem.Str → Option Value} {s : Shared} {E : Value → Shared → Prop} {Q : Flow → Shared → Prop}
    {RW dT aA : Addr} {oT oA x1 x2 oR oS o5 : Obj} {kT kA : List (PySem.Str × Value)} {eT : Ents} {ds : List IE} {tl : Led} {r0 : RE} {rt : List RE} {cp : Nat} {t9 tS : Tok} {u1 : Option Value}
    (BB : Below (ktrTop dp un gd cn cs L fa ccd cl outer) base (envX cn cs L fa ccd cl :: outer) gg) (XX : (Mine.hd.heap_1 w.params).In gg) (TT : Top p loose mean mg mb gg) (hC : Codes base) (l54 : @LT.lt Nat _ 54 LL) (hd : dp + 150 < recursionLimit) (hu : un + 8 * 150 < cLine)
    (F : Fr gg LL s.heap fun y => if y = "lift" then some (.int lftV t9) else m y)
    (N : News gg LL s.heap ((LL + 1 + 1 + 1 + 1 + 1, x1) :: (dT, oT) :: (LL + 1 + 1 + 1 + 1, x2) :: (LL + 1, o5) :: (aA, oA) :: (RW, lstC (r0.ref :: List.map RE.ref rt) cp) :: (LL + 1 + 1 + 1, oR) :: (LL + 1 + 1, oS) :: r0.obj :: (List.map RE.obj rt ++ tl)))
    (nd : DistL ((LL + 1 + 1 + 1 + 1 + 1, x1) :: (dT, oT) :: (LL + 1 + 1 + 1 + 1, x2) :: (LL + 1, o5) :: (aA, oA) :: (RW, lstC (r0.ref :: List.map RE.ref rt) cp) :: (LL + 1 + 1 + 1, oR) :: (LL + 1 + 1, oS) :: r0.obj :: (List.map RE.obj rt ++ tl)))
    (hT : oT.IsDictOf (PySem.strKind PySem.Challenge.rw_wy0040_01.row.toRowW.prog w) kT) (hkT : DInts kT eT) (hlook : ∀ j, j < 8 → lookI eT (key j) = some (Tk o s1 k j))
    (dx1 : x1.data = .cell u1) (dx2 : x2.data = .cell (some (.ref dT))) (dx3 : oR.data = .cell (some (.ref RW))) (dx4 : oS.data = .cell (some (.str stepsT tS))) (dx5 : o5.data = .cell (some (.ref aA)))
    (hA : oA.IsDictOf (PySem.strKind PySem.Challenge.rw_wy0040_01.row.toRowW.prog w) kA) (aft : AftIs w o s1 kA ds) (hRs : Rests gg (ds.map IE.obj))
    (rows : ∀ r ∈ r0 :: rt, RowOk w r) (hr0 : r0.e = []) (hrl : rt.length = k) (hsum : ∀ q r, (r0 :: rt)[q]? = some r → sumI r.e = psum o s1 q ∧ r.e.length ≤ 8 * q)
    (hPO : PassesOwn (model PySem.Challenge.rw_wy0040_01.row.toRowW.prog w) ((ktrTop dp un gd cn cs L fa ccd cl outer).deeper (envOfC "_law_closed" scope LL 271 (.ref 270))) (envOfC "_law_closed" scope LL 271 (.ref 270)) E)
    (ret : ∀ h' tk m' dT' oT' kT' eT' x1' x2' r' cp' u1', m' "lift" = some (.int lftV t9) → Fr gg LL h' m' → News gg LL h' ((LL + 1 + 1 + 1 + 1 + 1, x1') :: (dT', oT') :: (LL + 1 + 1 + 1 + 1, x2') :: (LL + 1, o5) :: (aA, oA) :: (RW, lstC (r0.ref :: List.map RE.ref (rt ++ [r'])) cp') :: (LL + 1 + 1 + 1, oR) :: (LL + 1 + 1, oS) :: r0.obj :: (List.map RE.obj (rt ++ [r']) ++ tl)) →
      DistL ((LL + 1 + 1 + 1 + 1 + 1, x1') :: (dT', oT') :: (LL + 1 + 1 + 1 + 1, x2') :: (LL + 1, o5) :: (aA, oA) :: (RW, lstC (r0.ref :: List.map RE.ref (rt ++ [r'])) cp') :: (LL + 1 + 1 + 1, oR) :: (LL + 1 + 1, oS) :: r0.obj :: (List.map RE.obj (rt ++ [r']) ++ tl)) →
      oT'.IsDictOf (PySem.strKind PySem.Challenge.rw_wy0040_01.row.toRowW.prog w) kT' → DInts kT' eT' → (∀ j, j < 8 → lookI eT' (key j) = some (Tk o s1 (k + 1) j)) → x1'.data = .cell u1' → x2'.data = .cell (some (.ref dT')) → RowOk w r' → sumI r'.e = psum o s1 (k + 1) ∧ r'.e.length ≤ 8 * (k + 1) → Q .next { s with heap := h', toks := tk }) :
    wpAny (model PySem.Challenge.rw_wy0040_01.row.toRowW.prog w) ((ktrTop dp un gd cn cs L fa ccd cl outer).deeper (envOfC "_law_closed" scope LL 271 (.ref 270))) (execs stm (envOfC "_law_closed" scope LL 271 (.ref 270))) Q E s := by
  conv at hb => {rhs; arg 1; whnf}
  conv at hb => {rhs; arg 2; whnf}
  simp only [Prod.mk.injEq] at hb
  obtain ⟨rfl, rfl⟩ := hb
  revert XX
  k_fill
  intro XX
  (repeat' (first | (k_unfold; (try dsimp only)) | ((fail_if_success (with_reducible first | show wpAny _ _ (PySem.call (Value.ref _) _) _ _ _ | show wpAny _ _ (pyIter (Value.ref _)) _ _ _ | show wpAny _ _ (exec (Stmt.For _ _ _ _ _) _) _ _ _ | show LCg.CompSrc _ _ _ _ _ _ _ _ _ _ _ _ _ _ | show LCg.CompEnd _ _ _ _ _ _ _ _ _ _ _ _ _ _ | show wpAny _ _ (eval (Expr.ListComp _ _ _ _) _) _ _ _ | show wpAny _ _ (eval (Expr.DictComp _ _ _ _ _) _) _ _ _ | show wpAny _ _ (exec (Stmt.Assign _ (Expr.ListComp _ _ _ _) _) _) _ _ _ | show wpAny _ _ (exec (Stmt.Assign _ (Expr.DictComp _ _ _ _ _) _) _) _ _ _ | show _ ≤ _)); (first | walk1 | (dsimp only; walk1)) <;> (try dsimp only)) | (leave1; try dsimp only) | fail "no step"))
  (rename Fr _ _ _ _ => lF6); (rename News _ _ _ _ => lN6)
  with_unfolding_all refine' For_turns lF6 ?_ (hE := hPO)
  k_whole
  walk1
  refine iter_textTurns (by decide +kernel) (by rfl) lF6 (cb_drop (news := r0.obj :: (LL + 1 + 1 + 1 + 1 + 1, x1) :: (dT, oT) :: (LL + 1 + 1 + 1 + 1, x2) :: (LL + 1, o5) :: (aA, oA) :: (RW, lstC (r0.ref :: List.map RE.ref rt) cp) :: (LL + 1 + 1 + 1, oR) :: (LL + 1 + 1, oS) :: r0.obj :: (List.map RE.obj rt ++ tl)) lN6 (subB [[(LL + 1 + 1 + 1 + 1 + 1, x1)], [(dT, oT)], [(LL + 1 + 1 + 1 + 1, x2)], [(LL + 1, o5)], [(aA, oA)], [(RW, lstC (r0.ref :: List.map RE.ref rt) cp)], [(LL + 1 + 1 + 1, oR)], [(LL + 1 + 1, oS)], [r0.obj], List.map RE.obj rt, tl] 10 [8, 0, 1, 2, 3, 4, 5, 6, 7, 8, 9] 10 [0, 1, 2, 3, 4, 5, 6, 7, 8, 9] rfl : ∀ q ∈ r0.obj :: (LL + 1 + 1 + 1 + 1 + 1, x1) :: (dT, oT) :: (LL + 1 + 1 + 1 + 1, x2) :: (LL + 1, o5) :: (aA, oA) :: (RW, lstC (r0.ref :: List.map RE.ref rt) cp) :: (LL + 1 + 1 + 1, oR) :: (LL + 1 + 1, oS) :: r0.obj :: (List.map RE.obj rt ++ tl), q ∈ (LL + 1 + 1 + 1 + 1 + 1, x1) :: (dT, oT) :: (LL + 1 + 1 + 1 + 1, x2) :: (LL + 1, o5) :: (aA, oA) :: (RW, lstC (r0.ref :: List.map RE.ref rt) cp) :: (LL + 1 + 1 + 1, oR) :: (LL + 1 + 1, oS) :: r0.obj :: (List.map RE.obj rt ++ tl))) ?_
  rw [steps_itms]
  refine lcSteps rfl hs1 hs2 hk BB XX TT hC l54 hd hu nd hT hkT hlook dx1 dx2 dx5 hA aft hRs (rows r0 (List.mem_cons_self ..)) hr0 ?_
  clear lF6 lN6
  intro h1 tk1 m1 df of kf x1' u1' b1 b2 F1 N1 nd1 lf hf hkf dx1'
  replace F1 := see2 F1 (x1 := "fresh") (x2 := "lift") b1 b2
  (repeat' (first | (k_unfold; (try dsimp only)) | ((fail_if_success (with_reducible first | show wpAny _ _ (PySem.call (Value.ref _) _) _ _ _ | show wpAny _ _ (pyIter (Value.ref _)) _ _ _ | show wpAny _ _ (exec (Stmt.For _ _ _ _ _) _) _ _ _ | show LCg.CompSrc _ _ _ _ _ _ _ _ _ _ _ _ _ _ | show LCg.CompEnd _ _ _ _ _ _ _ _ _ _ _ _ _ _ | show wpAny _ _ (eval (Expr.ListComp _ _ _ _) _) _ _ _ | show wpAny _ _ (eval (Expr.DictComp _ _ _ _ _) _) _ _ _ | show wpAny _ _ (exec (Stmt.Assign _ (Expr.ListComp _ _ _ _) _) _) _ _ _ | show wpAny _ _ (exec (Stmt.Assign _ (Expr.DictComp _ _ _ _ _) _) _) _ _ _ | show _ ≤ _)); (first | walk1 | (dsimp only; walk1)) <;> (try dsimp only)) | (leave1; try dsimp only) | fail "no step"))
  have ndm := DistL.mid (a := [(df, of), (LL + 1 + 1 + 1 + 1 + 1, x1'), (dT, oT)]) nd1
  refine storeX_C F1 (cb_drop (news := (LL + 1 + 1 + 1 + 1, x2) :: (df, of) :: (LL + 1 + 1 + 1 + 1 + 1, x1') :: (dT, oT) :: (LL + 1, o5) :: (aA, oA) :: (RW, lstC (r0.ref :: rt.map RE.ref) cp) :: (LL + 1 + 1 + 1, oR) :: (LL + 1 + 1, oS) :: r0.obj :: (rt.map RE.obj ++ tl)) N1 (subB [[(df, of)], [(LL + 1 + 1 + 1 + 1 + 1, x1')], [(dT, oT)], [(LL + 1 + 1 + 1 + 1, x2)], [(LL + 1, o5)], [(aA, oA)], [(RW, lstC (r0.ref :: rt.map RE.ref) cp)], [(LL + 1 + 1 + 1, oR)], [(LL + 1 + 1, oS)], [r0.obj], rt.map RE.obj, tl] 11 [3, 0, 1, 2, 4, 5, 6, 7, 8, 9, 10] 11 [0, 1, 2, 3, 4, 5, 6, 7, 8, 9, 10] rfl : ∀ q ∈ (LL + 1 + 1 + 1 + 1, x2) :: (df, of) :: (LL + 1 + 1 + 1 + 1 + 1, x1') :: (dT, oT) :: (LL + 1, o5) :: (aA, oA) :: (RW, lstC (r0.ref :: rt.map RE.ref) cp) :: (LL + 1 + 1 + 1, oR) :: (LL + 1 + 1, oS) :: r0.obj :: (rt.map RE.obj ++ tl), q ∈ (df, of) :: (LL + 1 + 1 + 1 + 1 + 1, x1') :: (dT, oT) :: (LL + 1 + 1 + 1 + 1, x2) :: (LL + 1, o5) :: (aA, oA) :: (RW, lstC (r0.ref :: rt.map RE.ref) cp) :: (LL + 1 + 1 + 1, oR) :: (LL + 1 + 1, oS) :: r0.obj :: (rt.map RE.obj ++ tl))) rfl (.head ndm) dx2 ?_
  clear F1 N1
  intro h2 x2' F2 N2 d2
  replace N2 := cb_drop (news := (df, of) :: (LL + 1 + 1 + 1 + 1, x2') :: (LL + 1 + 1, oS) :: (LL + 1 + 1 + 1 + 1 + 1, x1') :: (LL + 1, o5) :: (aA, oA) :: (RW, lstC (r0.ref :: rt.map RE.ref) cp) :: (LL + 1 + 1 + 1, oR) :: r0.obj :: (rt.map RE.obj ++ tl)) N2 (subB [[(LL + 1 + 1 + 1 + 1, x2')], [(df, of)], [(LL + 1 + 1 + 1 + 1 + 1, x1')], [(dT, oT)], [(LL + 1, o5)], [(aA, oA)], [(RW, lstC (r0.ref :: rt.map RE.ref) cp)], [(LL + 1 + 1 + 1, oR)], [(LL + 1 + 1, oS)], [r0.obj], rt.map RE.obj, tl] 11 [1, 0, 8, 2, 4, 5, 6, 7, 9, 10] 11 [0, 1, 2, 3, 4, 5, 6, 7, 8, 9, 10] rfl : ∀ q ∈ (df, of) :: (LL + 1 + 1 + 1 + 1, x2') :: (LL + 1 + 1, oS) :: (LL + 1 + 1 + 1 + 1 + 1, x1') :: (LL + 1, o5) :: (aA, oA) :: (RW, lstC (r0.ref :: rt.map RE.ref) cp) :: (LL + 1 + 1 + 1, oR) :: r0.obj :: (rt.map RE.obj ++ tl), q ∈ (LL + 1 + 1 + 1 + 1, x2') :: (df, of) :: (LL + 1 + 1 + 1 + 1 + 1, x1') :: (dT, oT) :: (LL + 1, o5) :: (aA, oA) :: (RW, lstC (r0.ref :: rt.map RE.ref) cp) :: (LL + 1 + 1 + 1, oR) :: (LL + 1 + 1, oS) :: r0.obj :: (rt.map RE.obj ++ tl))
  try dsimp only
  (repeat' (first | (k_unfold; (try dsimp only)) | ((fail_if_success (with_reducible first | show wpAny _ _ (PySem.call (Value.ref _) _) _ _ _ | show wpAny _ _ (pyIter (Value.ref _)) _ _ _ | show wpAny _ _ (exec (Stmt.For _ _ _ _ _) _) _ _ _ | show LCg.CompSrc _ _ _ _ _ _ _ _ _ _ _ _ _ _ | show LCg.CompEnd _ _ _ _ _ _ _ _ _ _ _ _ _ _ | show wpAny _ _ (eval (Expr.ListComp _ _ _ _) _) _ _ _ | show wpAny _ _ (eval (Expr.DictComp _ _ _ _ _) _) _ _ _ | show wpAny _ _ (exec (Stmt.Assign _ (Expr.ListComp _ _ _ _) _) _) _ _ _ | show wpAny _ _ (exec (Stmt.Assign _ (Expr.DictComp _ _ _ _ _) _) _) _ _ _ | show _ ≤ _)); (first | walk1 | (dsimp only; walk1)) <;> (try dsimp only)) | (leave1; try dsimp only) | fail "no step"))
  (rename Fr _ _ _ _ => lF3); (rename News _ _ _ _ => lN3)
  obtain ⟨dC, e⟩ := nmA0 lN3; subst e
  obtain ⟨oC, e⟩ := nmO0 lN3; subst e
  rename ∀ p ∈ (df, of) :: _, _ => lC
  rename @LT.lt Nat _ LL dC => lLC
  rename Obj.IsDictOf _ oC _ => hC0

  walk1
  (repeat' (first | (k_unfold; (try dsimp only)) | ((fail_if_success (with_reducible first | show wpAny _ _ (PySem.call (Value.ref _) _) _ _ _ | show wpAny _ _ (pyIter (Value.ref _)) _ _ _ | show wpAny _ _ (exec (Stmt.For _ _ _ _ _) _) _ _ _ | show LCg.CompSrc _ _ _ _ _ _ _ _ _ _ _ _ _ _ | show LCg.CompEnd _ _ _ _ _ _ _ _ _ _ _ _ _ _ | show wpAny _ _ (eval (Expr.ListComp _ _ _ _) _) _ _ _ | show wpAny _ _ (eval (Expr.DictComp _ _ _ _ _) _) _ _ _ | show wpAny _ _ (exec (Stmt.Assign _ (Expr.ListComp _ _ _ _) _) _) _ _ _ | show wpAny _ _ (exec (Stmt.Assign _ (Expr.DictComp _ _ _ _ _) _) _) _ _ _ | show _ ≤ _)); (first | walk1 | (dsimp only; walk1)) <;> (try dsimp only)) | (leave1; try dsimp only) | fail "no step"))
  (rename IsRange _ _ _ _ _ _ _ _ => lR5); (rename Fr _ _ _ _ => lF5); (rename News _ _ _ _ => lN5)
  with_unfolding_all refine iter_rangeUnr (n := 8) (by rfl) lR5 (by decide) (by decide) lF5 (cb_drop (news := (dC, oC) :: (df, of) :: (LL + 1 + 1 + 1 + 1, x2') :: (LL + 1 + 1, oS) :: (LL + 1 + 1 + 1 + 1 + 1, x1') :: (LL + 1, o5) :: (aA, oA) :: (RW, lstC (r0.ref :: rt.map RE.ref) cp) :: (LL + 1 + 1 + 1, oR) :: r0.obj :: (rt.map RE.obj ++ tl)) lN5 (fun q hq => hq)) ?_
  intro i5 l5
  clear lF5 lN5 lR5
  have hoff : ∀ oC', ∀ p ∈ (dC, oC') :: (df, of) :: (LL + 1 + 1 + 1 + 1, x2') :: (LL + 1 + 1, oS) :: (LL + 1 + 1 + 1 + 1 + 1, x1') :: (LL + 1, o5) :: (aA, oA) :: (RW, lstC (r0.ref :: rt.map RE.ref) cp) :: (LL + 1 + 1 + 1, oR) :: r0.obj :: (rt.map RE.obj ++ tl), @Ne Nat p.1 i5 := fun oC' p hp => by
    rcases List.mem_cons.mp hp with rfl | hp
    · exact Nat.ne_of_lt (l5 (dC, oC) (List.mem_cons_self ..))
    · exact Nat.ne_of_lt (l5 p (List.mem_cons_of_mem _ hp))
  refine range_ind (CfJ w o s1 k t9 dC df LL aA RW of x2' oS x1' o5 oA oR r0 rt cp tl) ?r0 ?r1 _ _ _ _ (by decide) ?ri
  case ri => exact ⟨oC, [], rfl, rfl, hC0, .nil, rfl⟩
  case r1 =>
    rintro i m3 n3 hi ⟨oC, kC, b1, b2, hCd, hkC, rfl⟩ tt h3 tk3 F3 N3
    replace F3 := see3 F3 (x1 := "i") (x2 := "lift") (x3 := "closed") rfl b1 b2
    refine lcFill rfl hs1 hs2 hk hi BB XX TT hC hd hu F3 (cb_drop (news := (dC, oC) :: (df, of) :: (LL + 1 + 1 + 1 + 1, x2') :: (LL + 1 + 1, oS) :: (i5, itR (0 + ((i + 1 : Nat) : Int)) ((8 : Nat) - ((i + 1 : Nat) : Int))) :: (LL + 1 + 1 + 1 + 1 + 1, x1') :: (LL + 1, o5) :: (aA, oA) :: (RW, lstC (r0.ref :: rt.map RE.ref) cp) :: (LL + 1 + 1 + 1, oR) :: r0.obj :: (rt.map RE.obj ++ tl)) N3 (subB [[(i5, itR (0 + ((i + 1 : Nat) : Int)) ((8 : Nat) - ((i + 1 : Nat) : Int)))], [(dC, oC)], [(df, of)], [(LL + 1 + 1 + 1 + 1, x2')], [(LL + 1 + 1, oS)], [(LL + 1 + 1 + 1 + 1 + 1, x1')], [(LL + 1, o5)], [(aA, oA)], [(RW, lstC (r0.ref :: rt.map RE.ref) cp)], [(LL + 1 + 1 + 1, oR)], [r0.obj], rt.map RE.obj, tl] 12 [1, 2, 3, 4, 0, 5, 6, 7, 8, 9, 10, 11] 12 [0, 1, 2, 3, 4, 5, 6, 7, 8, 9, 10, 11] rfl : ∀ q ∈ (dC, oC) :: (df, of) :: (LL + 1 + 1 + 1 + 1, x2') :: (LL + 1 + 1, oS) :: (i5, itR (0 + ((i + 1 : Nat) : Int)) ((8 : Nat) - ((i + 1 : Nat) : Int))) :: (LL + 1 + 1 + 1 + 1 + 1, x1') :: (LL + 1, o5) :: (aA, oA) :: (RW, lstC (r0.ref :: rt.map RE.ref) cp) :: (LL + 1 + 1 + 1, oR) :: r0.obj :: (rt.map RE.obj ++ tl), q ∈ (i5, itR (0 + ((i + 1 : Nat) : Int)) ((8 : Nat) - ((i + 1 : Nat) : Int))) :: (dC, oC) :: (df, of) :: (LL + 1 + 1 + 1 + 1, x2') :: (LL + 1 + 1, oS) :: (LL + 1 + 1 + 1 + 1 + 1, x1') :: (LL + 1, o5) :: (aA, oA) :: (RW, lstC (r0.ref :: rt.map RE.ref) cp) :: (LL + 1 + 1 + 1, oR) :: r0.obj :: (rt.map RE.obj ++ tl))) hf hkf (fresh_tk hi) dx4 d2 hCd hkC ?c1 ?c2 ?_
    case c1 => exact Nat.ne_of_gt (lC (df, of) (List.mem_cons_self ..))
    case c2 =>
      intro q hq
      rcases List.mem_cons.mp ((subB [[(i5, itR (0 + ((i + 1 : Nat) : Int)) ((8 : Nat) - ((i + 1 : Nat) : Int)))], [(df, of)], [(LL + 1 + 1 + 1 + 1, x2')], [(LL + 1 + 1, oS)], [(LL + 1 + 1 + 1 + 1 + 1, x1')], [(LL + 1, o5)], [(aA, oA)], [(RW, lstC (r0.ref :: rt.map RE.ref) cp)], [(LL + 1 + 1 + 1, oR)], [r0.obj], rt.map RE.obj, tl] 11 [1, 2, 3, 0, 4, 5, 6, 7, 8, 9, 10] 11 [0, 1, 2, 3, 4, 5, 6, 7, 8, 9, 10] rfl : ∀ q ∈ (df, of) :: (LL + 1 + 1 + 1 + 1, x2') :: (LL + 1 + 1, oS) :: (i5, itR (0 + ((i + 1 : Nat) : Int)) ((8 : Nat) - ((i + 1 : Nat) : Int))) :: (LL + 1 + 1 + 1 + 1 + 1, x1') :: (LL + 1, o5) :: (aA, oA) :: (RW, lstC (r0.ref :: rt.map RE.ref) cp) :: (LL + 1 + 1 + 1, oR) :: r0.obj :: (rt.map RE.obj ++ tl), q ∈ (i5, itR (0 + ((i + 1 : Nat) : Int)) ((8 : Nat) - ((i + 1 : Nat) : Int))) :: (df, of) :: (LL + 1 + 1 + 1 + 1, x2') :: (LL + 1 + 1, oS) :: (LL + 1 + 1 + 1 + 1 + 1, x1') :: (LL + 1, o5) :: (aA, oA) :: (RW, lstC (r0.ref :: rt.map RE.ref) cp) :: (LL + 1 + 1 + 1, oR) :: r0.obj :: (rt.map RE.obj ++ tl)) q hq) with rfl | hq
      · exact Nat.ne_of_gt (l5 _ (List.mem_cons_self ..))
      · exact Nat.ne_of_lt (lC q hq)
    intro h4 tk4 oC' kC' F4 N4 hd4 hk4
    exact ⟨h4, tk4, _, _, rfl, F4, cb_drop (news := (i5, itR (0 + ((i + 1 : Nat) : Int)) ((8 : Nat) - ((i + 1 : Nat) : Int))) :: (dC, oC') :: (df, of) :: (LL + 1 + 1 + 1 + 1, x2') :: (LL + 1 + 1, oS) :: (LL + 1 + 1 + 1 + 1 + 1, x1') :: (LL + 1, o5) :: (aA, oA) :: (RW, lstC (r0.ref :: rt.map RE.ref) cp) :: (LL + 1 + 1 + 1, oR) :: r0.obj :: (rt.map RE.obj ++ tl)) N4 (subB [[(dC, oC')], [(df, of)], [(LL + 1 + 1 + 1 + 1, x2')], [(LL + 1 + 1, oS)], [(i5, itR (0 + ((i + 1 : Nat) : Int)) ((8 : Nat) - ((i + 1 : Nat) : Int)))], [(LL + 1 + 1 + 1 + 1 + 1, x1')], [(LL + 1, o5)], [(aA, oA)], [(RW, lstC (r0.ref :: rt.map RE.ref) cp)], [(LL + 1 + 1 + 1, oR)], [r0.obj], rt.map RE.obj, tl] 12 [4, 0, 1, 2, 3, 5, 6, 7, 8, 9, 10, 11] 12 [0, 1, 2, 3, 4, 5, 6, 7, 8, 9, 10, 11] rfl : ∀ q ∈ (i5, itR (0 + ((i + 1 : Nat) : Int)) ((8 : Nat) - ((i + 1 : Nat) : Int))) :: (dC, oC') :: (df, of) :: (LL + 1 + 1 + 1 + 1, x2') :: (LL + 1 + 1, oS) :: (LL + 1 + 1 + 1 + 1 + 1, x1') :: (LL + 1, o5) :: (aA, oA) :: (RW, lstC (r0.ref :: rt.map RE.ref) cp) :: (LL + 1 + 1 + 1, oR) :: r0.obj :: (rt.map RE.obj ++ tl), q ∈ (dC, oC') :: (df, of) :: (LL + 1 + 1 + 1 + 1, x2') :: (LL + 1 + 1, oS) :: (i5, itR (0 + ((i + 1 : Nat) : Int)) ((8 : Nat) - ((i + 1 : Nat) : Int))) :: (LL + 1 + 1 + 1 + 1 + 1, x1') :: (LL + 1, o5) :: (aA, oA) :: (RW, lstC (r0.ref :: rt.map RE.ref) cp) :: (LL + 1 + 1 + 1, oR) :: r0.obj :: (rt.map RE.obj ++ tl)), hoff oC', oC', kC', rfl, rfl, hd4, hk4, rfl⟩
  case r0 =>
    rintro m3 n3 ⟨oC, kC, b1, b2, hCd, hkC, rfl⟩ h3 tk3 F3 N3
    replace F3 := see2 F3 (x1 := "lift") (x2 := "closed") b1 b2
    (repeat' (first | (k_unfold; (try dsimp only)) | ((fail_if_success (with_reducible first | show wpAny _ _ (PySem.call (Value.ref _) _) _ _ _ | show wpAny _ _ (pyIter (Value.ref _)) _ _ _ | show wpAny _ _ (exec (Stmt.For _ _ _ _ _) _) _ _ _ | show LCg.CompSrc _ _ _ _ _ _ _ _ _ _ _ _ _ _ | show LCg.CompEnd _ _ _ _ _ _ _ _ _ _ _ _ _ _ | show wpAny _ _ (eval (Expr.ListComp _ _ _ _) _) _ _ _ | show wpAny _ _ (eval (Expr.DictComp _ _ _ _ _) _) _ _ _ | show wpAny _ _ (exec (Stmt.Assign _ (Expr.ListComp _ _ _ _) _) _) _ _ _ | show wpAny _ _ (exec (Stmt.Assign _ (Expr.DictComp _ _ _ _ _) _) _) _ _ _ | show _ ≤ _)); (first | walk1 | (dsimp only; walk1)) <;> (try dsimp only)) | (leave1; try dsimp only) | fail "no step"))
    (rename Fr _ _ _ _ => lF6); (rename News _ _ _ _ => lN6)
    obtain ⟨ini, la, hil⟩ : ∃ ini la, r0 :: rt = ini ++ [la] := ⟨(r0 :: rt).dropLast, (r0 :: rt).getLast (by simp), (List.dropLast_concat_getLast _).symm⟩
    have eqA : ∀ X : Led, r0.obj :: (rt.map RE.obj ++ X) = ini.map RE.obj ++ la.obj :: X := fun X => by
      have h := congrArg (fun l => List.map RE.obj l ++ X) hil
      simpa using h
    have hla := rows la (by rw [hil]; simp)
    have hk1 : (r0 :: rt)[k]? = some la := by
      have h := congrArg List.length hil
      simp only [List.length_cons, List.length_append, List.length_nil, hrl] at h
      rw [hil, show k = ini.length by (first | lia | omega), List.getElem?_append_right (Nat.le_refl _)]; simp
    obtain ⟨hsu, hle⟩ := hsum _ _ hk1
    have hl := isL lN6 (l := RW) (by kl_some)
    refine tail_any hl.typeIs slot_list_getitem.lookup (wpAny_getItem_list_neg hl (by decide) (by simp only [List.size_toArray, List.length_cons]; (first | lia | omega)) (by decide) (last_at hil) ?_) (by with_unfolding_all rfl)
    (repeat' (first | (k_unfold; (try dsimp only)) | ((fail_if_success (with_reducible first | show wpAny _ _ (PySem.call (Value.ref _) _) _ _ _ | show wpAny _ _ (pyIter (Value.ref _)) _ _ _ | show wpAny _ _ (exec (Stmt.For _ _ _ _ _) _) _ _ _ | show LCg.CompSrc _ _ _ _ _ _ _ _ _ _ _ _ _ _ | show LCg.CompEnd _ _ _ _ _ _ _ _ _ _ _ _ _ _ | show wpAny _ _ (eval (Expr.ListComp _ _ _ _) _) _ _ _ | show wpAny _ _ (eval (Expr.DictComp _ _ _ _ _) _) _ _ _ | show wpAny _ _ (exec (Stmt.Assign _ (Expr.ListComp _ _ _ _) _) _) _ _ _ | show wpAny _ _ (exec (Stmt.Assign _ (Expr.DictComp _ _ _ _ _) _) _) _ _ _ | show _ ≤ _)); (first | walk1 | (dsimp only; walk1)) <;> (try dsimp only)) | (leave1; try dsimp only) | fail "no step"))
    clear hl
    have hzA := DistL.midA (p := la.obj) (a := (df, of) :: (LL + 1 + 1 + 1 + 1 + 1, x1') :: (dT, oT) :: (LL + 1 + 1 + 1 + 1, x2) :: (LL + 1, o5) :: (aA, oA) :: (RW, lstC (r0.ref :: rt.map RE.ref) cp) :: (LL + 1 + 1 + 1, oR) :: (LL + 1 + 1, oS) :: ini.map RE.obj) (b := tl) (by
      show DistL ((df, of) :: (LL + 1 + 1 + 1 + 1 + 1, x1') :: (dT, oT) :: (LL + 1 + 1 + 1 + 1, x2) :: (LL + 1, o5) :: (aA, oA) :: (RW, lstC (r0.ref :: rt.map RE.ref) cp) :: (LL + 1 + 1 + 1, oR) :: (LL + 1 + 1, oS) :: (ini.map RE.obj ++ la.obj :: tl))
      rw [← eqA]; exact nd1)
    rw [eqA] at lN6 lC
    refine' Ok.use2 ((df, of) :: (LL + 1 + 1 + 1 + 1, x2') :: (LL + 1 + 1, oS) :: (LL + 1 + 1 + 1 + 1 + 1, x1') :: (LL + 1, o5) :: (aA, oA) :: (RW, lstC (r0.ref :: rt.map RE.ref) cp) :: (LL + 1 + 1 + 1, oR) :: (ini.map RE.obj ++ tl)) ?q1 lF6 ?q3 lN6 ?q5 ?q6 ?q7 (caddc hla.hd hCd hla.di hkC (Nat.lt_trans (by decide) hla.far) (Nat.lt_trans (by decide) (Nat.lt_trans l54 lLC)) ?q8 (Nat.le_trans hle (by (first | lia | omega))) (by simp only [tabE, List.length_map, List.length_range]; decide)) ?qs ?qa ?qd ?qu ?_
    case q1 => k_asm
    case q3 => k_asm
    case q5 => k_asm
    case q6 => exact rfl
    case q7 => assumption
    case q8 => exact Nat.ne_of_lt (lC la.obj (by kl_some))
    case qs =>
      exact (subB [[(dC, oC)], [(df, of)], [(LL + 1 + 1 + 1 + 1, x2')], [(LL + 1 + 1, oS)], [(LL + 1 + 1 + 1 + 1 + 1, x1')], [(LL + 1, o5)], [(aA, oA)], [(RW, lstC (r0.ref :: rt.map RE.ref) cp)], [(LL + 1 + 1 + 1, oR)], ini.map RE.obj, [la.obj], tl] 11 [10, 0, 1, 2, 3, 4, 5, 6, 7, 8, 9] 11 [0, 1, 2, 3, 4, 5, 6, 7, 8, 9, 10] rfl : ∀ q ∈ la.obj :: (dC, oC) :: (df, of) :: (LL + 1 + 1 + 1 + 1, x2') :: (LL + 1 + 1, oS) :: (LL + 1 + 1 + 1 + 1 + 1, x1') :: (LL + 1, o5) :: (aA, oA) :: (RW, lstC (r0.ref :: rt.map RE.ref) cp) :: (LL + 1 + 1 + 1, oR) :: (ini.map RE.obj ++ tl), q ∈ (dC, oC) :: (df, of) :: (LL + 1 + 1 + 1 + 1, x2') :: (LL + 1 + 1, oS) :: (LL + 1 + 1 + 1 + 1 + 1, x1') :: (LL + 1, o5) :: (aA, oA) :: (RW, lstC (r0.ref :: rt.map RE.ref) cp) :: (LL + 1 + 1 + 1, oR) :: (ini.map RE.obj ++ la.obj :: tl))
    case qa =>
      have hsub := (subB [[df], [(LL + 1 + 1 + 1 + 1 + 1)], [dT], [(LL + 1 + 1 + 1 + 1)], [(LL + 1)], [aA], [RW], [(LL + 1 + 1 + 1)], [(LL + 1 + 1)], (ini.map RE.obj ++ tl).map (fun q : Addr × Obj => q.1)] 9 [0, 3, 8, 1, 4, 5, 6, 7] 9 [0, 1, 2, 3, 4, 5, 6, 7, 8] rfl : ∀ q ∈ df :: (LL + 1 + 1 + 1 + 1) :: (LL + 1 + 1) :: (LL + 1 + 1 + 1 + 1 + 1) :: (LL + 1) :: aA :: RW :: (LL + 1 + 1 + 1) :: (ini.map RE.obj ++ tl).map (fun q : Addr × Obj => q.1), q ∈ df :: (LL + 1 + 1 + 1 + 1 + 1) :: dT :: (LL + 1 + 1 + 1 + 1) :: (LL + 1) :: aA :: RW :: (LL + 1 + 1 + 1) :: (LL + 1 + 1) :: (ini.map RE.obj ++ tl).map (fun q : Addr × Obj => q.1))
      have hsub2 := (subB [[(df, of)], [(LL + 1 + 1 + 1 + 1, x2')], [(LL + 1 + 1, oS)], [(LL + 1 + 1 + 1 + 1 + 1, x1')], [(LL + 1, o5)], [(aA, oA)], [(RW, lstC (r0.ref :: rt.map RE.ref) cp)], [(LL + 1 + 1 + 1, oR)], ini.map RE.obj, [la.obj], tl] 10 [0, 1, 2, 3, 4, 5, 6, 7, 8] 10 [0, 1, 2, 3, 4, 5, 6, 7, 8, 9] rfl : ∀ q ∈ (df, of) :: (LL + 1 + 1 + 1 + 1, x2') :: (LL + 1 + 1, oS) :: (LL + 1 + 1 + 1 + 1 + 1, x1') :: (LL + 1, o5) :: (aA, oA) :: (RW, lstC (r0.ref :: rt.map RE.ref) cp) :: (LL + 1 + 1 + 1, oR) :: (ini.map RE.obj ++ tl), q ∈ (df, of) :: (LL + 1 + 1 + 1 + 1, x2') :: (LL + 1 + 1, oS) :: (LL + 1 + 1 + 1 + 1 + 1, x1') :: (LL + 1, o5) :: (aA, oA) :: (RW, lstC (r0.ref :: rt.map RE.ref) cp) :: (LL + 1 + 1 + 1, oR) :: (ini.map RE.obj ++ la.obj :: tl))
      intro p hp q hq
      rcases List.mem_cons.mp hp with rfl | hp
      · exact hzA _ (hsub _ (List.mem_map_of_mem hq))
      · rw [List.mem_singleton.mp hp]
        exact Nat.ne_of_gt (lC q (hsub2 q hq))
    case qd => (first | exact room1 (by assumption) rfl | exact room0 (by assumption) | ktr_room)
    case qu => (first | exact units1 (by assumption) rfl | ktr_units)
    clear lF6 lN6
    intro b8 r8 n8 h8 tk8 U8 F8 N8 hp8
    obtain ⟨dn, on, kn, lt8, hdn, hkn, rfl, rfl⟩ := hp8
    try dsimp only
    (repeat' (first | (k_unfold; (try dsimp only)) | ((fail_if_success (with_reducible first | show wpAny _ _ (PySem.call (Value.ref _) _) _ _ _ | show wpAny _ _ (pyIter (Value.ref _)) _ _ _ | show wpAny _ _ (exec (Stmt.For _ _ _ _ _) _) _ _ _ | show LCg.CompSrc _ _ _ _ _ _ _ _ _ _ _ _ _ _ | show LCg.CompEnd _ _ _ _ _ _ _ _ _ _ _ _ _ _ | show wpAny _ _ (eval (Expr.ListComp _ _ _ _) _) _ _ _ | show wpAny _ _ (eval (Expr.DictComp _ _ _ _ _) _) _ _ _ | show wpAny _ _ (exec (Stmt.Assign _ (Expr.ListComp _ _ _ _) _) _) _ _ _ | show wpAny _ _ (exec (Stmt.Assign _ (Expr.DictComp _ _ _ _ _) _) _) _ _ _ | show _ ≤ _)); (first | walk1 | (dsimp only; walk1)) <;> (try dsimp only)) | (leave1; try dsimp only) | fail "no step"))
    have hRW := DistL.midA (p := (RW, lstC (r0.ref :: rt.map RE.ref) cp)) (a := [(df, of), (LL + 1 + 1 + 1 + 1 + 1, x1'), (dT, oT), (LL + 1 + 1 + 1 + 1, x2), (LL + 1, o5), (aA, oA)]) nd1
    have nd2 : DistL ((df, of) :: (LL + 1 + 1 + 1 + 1 + 1, x1') :: (dT, oT) :: (LL + 1 + 1 + 1 + 1, x2') :: (LL + 1, o5) :: (aA, oA) :: (RW, lstC (r0.ref :: rt.map RE.ref) cp) :: (LL + 1 + 1 + 1, oR) :: (LL + 1 + 1, oS) :: r0.obj :: (rt.map RE.obj ++ tl)) := nd1
    have hdnR : RW ≠ dn := Nat.ne_of_lt (Nat.lt_trans (U8 (RW, lstC (r0.ref :: rt.map RE.ref) cp) (by kl_some)) lt8)
    have hsA := (subB [[df], [(LL + 1 + 1 + 1 + 1 + 1)], [dT], [(LL + 1 + 1 + 1 + 1)], [(LL + 1)], [aA], [(LL + 1 + 1 + 1)], [(LL + 1 + 1)], (r0.obj :: (rt.map RE.obj ++ tl)).map (fun q : Addr × Obj => q.1)] 8 [1, 0, 3, 4, 5, 6, 7] 8 [0, 1, 2, 3, 4, 5, 6, 7] rfl : ∀ q ∈ (LL + 1 + 1 + 1 + 1 + 1) :: df :: (LL + 1 + 1 + 1 + 1) :: (LL + 1) :: aA :: (LL + 1 + 1 + 1) :: (LL + 1 + 1) :: (r0.obj :: (rt.map RE.obj ++ tl)).map (fun q : Addr × Obj => q.1), q ∈ df :: (LL + 1 + 1 + 1 + 1 + 1) :: dT :: (LL + 1 + 1 + 1 + 1) :: (LL + 1) :: aA :: (LL + 1 + 1 + 1) :: (LL + 1 + 1) :: (r0.obj :: (rt.map RE.obj ++ tl)).map (fun q : Addr × Obj => q.1))
    have offRW : ∀ q ∈ (dn, on) :: (LL + 1 + 1 + 1 + 1 + 1, x1') :: (df, of) :: (LL + 1 + 1 + 1 + 1, x2') :: (LL + 1, o5) :: (aA, oA) :: (LL + 1 + 1 + 1, oR) :: (LL + 1 + 1, oS) :: r0.obj :: (rt.map RE.obj ++ tl), @Ne Nat q.1 RW := fun q hq => by
      rcases List.mem_cons.mp hq with rfl | hq
      · exact hdnR.symm
      · exact (hRW q.1 (hsA q.1 (List.mem_map_of_mem hq))).symm
    replace N8 := cb_drop (news := (RW, lstC (r0.ref :: rt.map RE.ref) cp) :: (dn, on) :: (LL + 1 + 1 + 1 + 1 + 1, x1') :: (df, of) :: (LL + 1 + 1 + 1 + 1, x2') :: (LL + 1, o5) :: (aA, oA) :: (LL + 1 + 1 + 1, oR) :: (LL + 1 + 1, oS) :: r0.obj :: (rt.map RE.obj ++ tl)) N8 (by rw [eqA]; exact (subB [[(dn, on)], [la.obj], [(dC, oC)], [(df, of)], [(LL + 1 + 1 + 1 + 1, x2')], [(LL + 1 + 1, oS)], [(LL + 1 + 1 + 1 + 1 + 1, x1')], [(LL + 1, o5)], [(aA, oA)], [(RW, lstC (r0.ref :: rt.map RE.ref) cp)], [(LL + 1 + 1 + 1, oR)], ini.map RE.obj, tl] 12 [9, 0, 6, 3, 4, 7, 8, 10, 5, 11, 1] 12 [0, 1, 2, 3, 4, 5, 6, 7, 8, 9, 10, 11] rfl : ∀ q ∈ (RW, lstC (r0.ref :: rt.map RE.ref) cp) :: (dn, on) :: (LL + 1 + 1 + 1 + 1 + 1, x1') :: (df, of) :: (LL + 1 + 1 + 1 + 1, x2') :: (LL + 1, o5) :: (aA, oA) :: (LL + 1 + 1 + 1, oR) :: (LL + 1 + 1, oS) :: (ini.map RE.obj ++ la.obj :: tl), q ∈ (dn, on) :: la.obj :: (dC, oC) :: (df, of) :: (LL + 1 + 1 + 1 + 1, x2') :: (LL + 1 + 1, oS) :: (LL + 1 + 1 + 1 + 1 + 1, x1') :: (LL + 1, o5) :: (aA, oA) :: (RW, lstC (r0.ref :: rt.map RE.ref) cp) :: (LL + 1 + 1 + 1, oR) :: (ini.map RE.obj ++ tl)))
    refine append_K F8 N8 (.head offRW) ?_ (by simp only [List.size_toArray, List.length_cons, List.length_map, hrl]; exact Nat.le_trans (by (first | lia | omega) : k + 1 ≤ 8) (by decide))
    intro h9 F9 N9
    (repeat' (first | (k_unfold; (try dsimp only)) | ((fail_if_success (with_reducible first | show wpAny _ _ (PySem.call (Value.ref _) _) _ _ _ | show wpAny _ _ (pyIter (Value.ref _)) _ _ _ | show wpAny _ _ (exec (Stmt.For _ _ _ _ _) _) _ _ _ | show LCg.CompSrc _ _ _ _ _ _ _ _ _ _ _ _ _ _ | show LCg.CompEnd _ _ _ _ _ _ _ _ _ _ _ _ _ _ | show wpAny _ _ (eval (Expr.ListComp _ _ _ _) _) _ _ _ | show wpAny _ _ (eval (Expr.DictComp _ _ _ _ _) _) _ _ _ | show wpAny _ _ (exec (Stmt.Assign _ (Expr.ListComp _ _ _ _) _) _) _ _ _ | show wpAny _ _ (exec (Stmt.Assign _ (Expr.DictComp _ _ _ _ _) _) _) _ _ _ | show _ ≤ _)); (first | walk1 | (dsimp only; walk1)) <;> (try dsimp only)) | (leave1; try dsimp only) | fail "no step"))
    have eqB : ∀ r' : RE, (rt ++ [r']).map RE.obj ++ tl = rt.map RE.obj ++ r'.obj :: tl := fun r' => by simp
    have eqL : ∀ r' : RE, lstC (r0.ref :: (rt ++ [r']).map RE.ref) (cp + 1) = W.listOf ((r0.ref :: rt.map RE.ref).toArray.push r'.ref) (cp + 1) := fun r' => by simp [lstC, W.listOf]
    refine ret _ _ _ df of kf _ x1' x2' ⟨dn, on, kn, (tabE (fun j => Wk o s1 (k + 1) j j) 8).foldl addI la.e⟩ (cp + 1) u1' rfl F9 ?_ ?_ hf hkf (fun j hj => fresh_tk hj) dx1' d2 ⟨hdn, hkn, Nd_fold _ hla.nd, Nat.lt_trans (Nat.lt_trans l54 lLC) (Nat.lt_trans (U8 (dC, oC) (by kl_some)) lt8)⟩ ⟨?_, ?_⟩
    · rw [eqB, eqL]
      exact cb_drop (news := (LL + 1 + 1 + 1 + 1 + 1, x1') :: (df, of) :: (LL + 1 + 1 + 1 + 1, x2') :: (LL + 1, o5) :: (aA, oA) :: (RW, W.listOf ((r0.ref :: rt.map RE.ref).toArray.push (.ref dn)) (cp + 1)) :: (LL + 1 + 1 + 1, oR) :: (LL + 1 + 1, oS) :: r0.obj :: (rt.map RE.obj ++ (dn, on) :: tl)) N9 (subB [[(RW, W.listOf ((r0.ref :: rt.map RE.ref).toArray.push (.ref dn)) (cp + 1))], [(dn, on)], [(LL + 1 + 1 + 1 + 1 + 1, x1')], [(df, of)], [(LL + 1 + 1 + 1 + 1, x2')], [(LL + 1, o5)], [(aA, oA)], [(LL + 1 + 1 + 1, oR)], [(LL + 1 + 1, oS)], [r0.obj], rt.map RE.obj, tl] 11 [2, 3, 4, 5, 6, 0, 7, 8, 9, 10, 1] 11 [0, 1, 2, 3, 4, 5, 6, 7, 8, 9, 10] rfl : ∀ q ∈ (LL + 1 + 1 + 1 + 1 + 1, x1') :: (df, of) :: (LL + 1 + 1 + 1 + 1, x2') :: (LL + 1, o5) :: (aA, oA) :: (RW, W.listOf ((r0.ref :: rt.map RE.ref).toArray.push (.ref dn)) (cp + 1)) :: (LL + 1 + 1 + 1, oR) :: (LL + 1 + 1, oS) :: r0.obj :: (rt.map RE.obj ++ (dn, on) :: tl), q ∈ (RW, W.listOf ((r0.ref :: rt.map RE.ref).toArray.push (.ref dn)) (cp + 1)) :: (dn, on) :: (LL + 1 + 1 + 1 + 1 + 1, x1') :: (df, of) :: (LL + 1 + 1 + 1 + 1, x2') :: (LL + 1, o5) :: (aA, oA) :: (LL + 1 + 1 + 1, oR) :: (LL + 1 + 1, oS) :: r0.obj :: (rt.map RE.obj ++ tl))
    · rw [eqB]
      refine DistL.move (a := (df, of)) (b := (LL + 1 + 1 + 1 + 1 + 1, x1')) (c := (dT, oT)) (l := (LL + 1 + 1 + 1 + 1, x2') :: (LL + 1, o5) :: (aA, oA) :: (RW, lstC (r0.ref :: rt.map RE.ref) cp) :: (LL + 1 + 1 + 1, oR) :: (LL + 1 + 1, oS) :: r0.obj :: rt.map RE.obj) nd2 ?_
      show ∀ q ∈ (df, of) :: (LL + 1 + 1 + 1 + 1 + 1, x1') :: (LL + 1 + 1 + 1 + 1, x2') :: (LL + 1, o5) :: (aA, oA) :: (RW, lstC (r0.ref :: rt.map RE.ref) cp) :: (LL + 1 + 1 + 1, oR) :: (LL + 1 + 1, oS) :: r0.obj :: (rt.map RE.obj ++ tl), _
      rw [eqA]
      exact fun q hq => Nat.lt_trans (U8 q ((subB [[la.obj], [(dC, oC)], [(df, of)], [(LL + 1 + 1 + 1 + 1, x2')], [(LL + 1 + 1, oS)], [(LL + 1 + 1 + 1 + 1 + 1, x1')], [(LL + 1, o5)], [(aA, oA)], [(RW, lstC (r0.ref :: rt.map RE.ref) cp)], [(LL + 1 + 1 + 1, oR)], ini.map RE.obj, tl] 11 [2, 5, 3, 6, 7, 8, 9, 4, 10, 0] 11 [0, 1, 2, 3, 4, 5, 6, 7, 8, 9, 10] rfl : ∀ q ∈ (df, of) :: (LL + 1 + 1 + 1 + 1 + 1, x1') :: (LL + 1 + 1 + 1 + 1, x2') :: (LL + 1, o5) :: (aA, oA) :: (RW, lstC (r0.ref :: rt.map RE.ref) cp) :: (LL + 1 + 1 + 1, oR) :: (LL + 1 + 1, oS) :: (ini.map RE.obj ++ la.obj :: tl), q ∈ la.obj :: (dC, oC) :: (df, of) :: (LL + 1 + 1 + 1 + 1, x2') :: (LL + 1 + 1, oS) :: (LL + 1 + 1 + 1 + 1 + 1, x1') :: (LL + 1, o5) :: (aA, oA) :: (RW, lstC (r0.ref :: rt.map RE.ref) cp) :: (LL + 1 + 1 + 1, oR) :: (ini.map RE.obj ++ tl)) q hq)) lt8
    · show sumI _ = psum o s1 k + _
      rw [sumI_fold _ hla.nd, hsu, tabE_sum]
    · refine Nat.le_trans (foldl_addI_len _ _) ?_
      simp only [tabE, List.length_map, List.length_range]
      (first | lia | omega)
end
end
theorem offLC5 : True := by
  w_top off
  exact True.intro
section
open PySem PySem.W PySem.Spec PySem.Calls PyProof.Rows
section
variable {w : World} {p : Program} {loose : List PySem.Str} {mean : ExcName → Option Value} {mg mb : PySem.Str → Option Value}
theorem DistL.split {p : Addr × Obj} {l : Led} (h : DistL l) (hp : p ∈ l) : ∃ R0 : Led, (∀ q ∈ p :: R0, q ∈ l) ∧ (∀ q ∈ l, q ∈ p :: R0) ∧ (∀ q ∈ R0, @Ne Nat p.1 q.1) := by
  obtain ⟨a, b, rfl⟩ := List.append_of_mem hp
  exact ⟨a ++ b, fun q hq => List.perm_middle.mem_iff.mpr hq, fun q hq => List.perm_middle.mem_iff.mp hq, fun q hq => (h.mid q hq).symm⟩
theorem DistL.congr {l l' : Led} (h : DistL l) (e : l'.map (·.1) = l.map (·.1)) : DistL l' := by unfold DistL; rw [e]; exact h
theorem DistL.sub {l l' : Led} (h : DistL l) (hs : l'.Sublist l) : DistL l' := List.Nodup.sublist (hs.map _) h
theorem DistL.add {p : Addr × Obj} {l : Led} (hl : DistL l) (hp : ∀ q ∈ l, @Ne Nat q.1 p.1) : DistL (p :: l) := List.nodup_cons.mpr ⟨fun hm => by
    obtain ⟨q, hq, e⟩ := List.mem_map.mp hm
    exact hp q hq e, hl⟩
theorem nd3 {C I D : Addr × Obj} {B : Led} (h : DistL B) (o3 : ∀ p ∈ B, p.1 ≠ I.1 ∧ p.1 ≠ C.1 ∧ p.1 ≠ D.1) (n1 : @Ne Nat I.1 C.1) (n2 : @Ne Nat I.1 D.1) (n3 : @Ne Nat C.1 D.1) : DistL (C :: (B ++ [I, D])) := by
  have h1 : DistL (D :: B) := h.add fun q hq => (o3 q hq).2.2
  have h2 : DistL (I :: D :: B) := h1.add fun q hq => by
    rcases List.mem_cons.mp hq with rfl | hq
    · exact n2.symm
    · exact (o3 q hq).1
  have h3 : DistL (C :: I :: D :: B) := h2.add fun q hq => by
    rcases List.mem_cons.mp hq with rfl | hq
    · exact n1
    rcases List.mem_cons.mp hq with rfl | hq
    · exact n3.symm
    · exact (o3 q hq).2.1
  exact h3.perm (List.Perm.cons _ (List.perm_append_comm (l₁ := [I, D])))
theorem rows_snoc {P : RE → Prop} {r0 r' : RE} {rt : List RE} (h : ∀ r ∈ r0 :: rt, P r) (h' : P r') : ∀ r ∈ r0 :: (rt ++ [r']), P r := fun r hr => by
  rcases List.mem_append.mp (show r ∈ (r0 :: rt) ++ [r'] from hr) with hr | hr
  · exact h r hr
  · rw [List.mem_singleton.mp hr]; exact h'
theorem sums_snoc {P : Nat → RE → Prop} {r0 r' : RE} {rt : List RE} {k : Nat} (h : ∀ q r, (r0 :: rt)[q]? = some r → P q r) (hl : rt.length = k) (h' : P (k + 1) r') : ∀ q r, (r0 :: (rt ++ [r']))[q]? = some r → P q r := fun q r hr => by
  have e : (r0 :: rt).length = k + 1 := by rw [List.length_cons, hl]
  rw [show r0 :: (rt ++ [r']) = (r0 :: rt) ++ [r'] from rfl] at hr
  rcases Nat.lt_or_ge q (k + 1) with hq | hq
  · rw [List.getElem?_append_left (by (first | lia | omega))] at hr; exact h q r hr
  · rw [List.getElem?_append_right (by (first | lia | omega)), e] at hr
    obtain rfl : q = k + 1 := by
      rcases Nat.lt_or_ge (k + 1) q with h2 | h2
      · rw [List.getElem?_eq_none (by simp; (first | lia | omega))] at hr; cases hr
      · (first | lia | omega)
    simp at hr
    subst hr; exact h'
noncomputable def cntL (o : Nat → Nat) (s : Int) : List Int := [S8 fun i => Wk o s 1 i i, S8 fun i => Wk o s 2 i i, S8 fun i => Wk o s 3 i i, S8 fun i => Wk o s 4 i i, S8 fun i => Wk o s 5 i i]
theorem cnt_snoc {o : Nat → Nat} {s : Int} {i : Nat} (hi : i < 5) : (cntL o s).take (i + 1) = (cntL o s).take i ++ [psum o s (i + 1) - psum o s i] := by
  have e : psum o s (i + 1) - psum o s i = S8 fun j => Wk o s (i + 1) j j := by show psum o s i + _ - _ = _; (first | lia | omega)
  rw [e]
  rcases (by (first | lia | omega) : i = 0 ∨ i = 1 ∨ i = 2 ∨ i = 3 ∨ i = 4) with rfl | rfl | rfl | rfl | rfl <;> rfl
theorem row_at {r0 : RE} {rt : List RE} {n : Nat} (hl : rt.length = 5) (hn : n < 6) : ∃ r, (r0 :: rt)[n]? = some r ∧ (r0.ref :: rt.map RE.ref)[n]? = some r.ref ∧ r.obj ∈ r0.obj :: rt.map RE.obj ∧ r ∈ r0 :: rt := by
  have hlt : n < (r0 :: rt).length := by rw [List.length_cons]; (first | lia | omega)
  refine ⟨(r0 :: rt)[n], List.getElem?_eq_getElem hlt, ?_, ?_, List.getElem_mem hlt⟩
  · have e : r0.ref :: rt.map RE.ref = (r0 :: rt).map RE.ref := rfl
    rw [e, List.getElem?_map, List.getElem?_eq_getElem hlt]; rfl
  · have e : r0.obj :: rt.map RE.obj = (r0 :: rt).map RE.obj := rfl
    rw [e]; exact List.mem_map_of_mem (List.getElem_mem hlt)
noncomputable def compElt (k : Nat) (l : List Stmt) : PySem.Expr × Scope :=
  match l[k]? with
  | some (.Return (some (.ListComp elt _ sc _)) _) => (elt, sc)
  | _ => default
set_option maxHeartbeats 4000000 in
theorem lcCnt {elt : PySem.Expr} {scope csc : Scope} (hb : (elt, csc, scope) = ((compElt 5 (topFn 25).1).1, (compElt 5 (topFn 25).1).2, (topFn 25).2)) {o : Nat → Nat} {s1 : Int} {i : Nat} (hi : i < 5)
    {dp un : Nat} {gd : Option (List Code)} {cn : PySem.Str} {cs : Scope} {L fa LL : Addr} {ccd : Value} {cl : List (PySem.Str × Addr)} {outer : List Env} {base gg : Heap} {m m2 : PySem.Str → Option Value} {s : Shared} {E : Value → Shared → Prop} {Q : Value → Shared → Prop}
    {RW C : Addr} {oR oC : Obj} {tl : Led} {r0 : RE} {rt : List RE} {cp : Nat} {tj : Tok}
    (BB : Below (ktrTop dp un gd cn cs L fa ccd cl outer) base (envX cn cs L fa ccd cl :: outer) gg) (XX : (Mine.hd.heap_1 w.params).In gg) (TT : Top p loose mean mg mb gg) (hC : Codes base) (hd : dp + 150 < recursionLimit) (hu : un + 8 * 150 < cLine)
    (F : Fr gg LL s.heap m) (hCo : LCg.NsObj oC m2) (hx : m2 "k" = some (.int (0 + (i : Int)) tj))
    (N : News gg LL s.heap ((C, oC) :: (RW, lstC (r0.ref :: rt.map RE.ref) cp) :: (LL + 1 + 1 + 1, oR) :: r0.obj :: (rt.map RE.obj ++ tl)))
    (nd : DistL ((C, oC) :: (RW, lstC (r0.ref :: rt.map RE.ref) cp) :: (LL + 1 + 1 + 1, oR) :: r0.obj :: (rt.map RE.obj ++ tl)))
    (dx3 : oR.data = .cell (some (.ref RW)))
    (rows : ∀ r ∈ r0 :: rt, RowOk w r) (hrl : rt.length = 5) (hsum : ∀ q r, (r0 :: rt)[q]? = some r → sumI r.e = psum o s1 q)
    (ret : ∀ h' tk t, Fr gg LL h' m → News gg LL h' ((C, oC) :: (RW, lstC (r0.ref :: rt.map RE.ref) cp) :: (LL + 1 + 1 + 1, oR) :: r0.obj :: (rt.map RE.obj ++ tl)) → Q (.int (psum o s1 (i + 1) - psum o s1 i) t) { s with heap := h', toks := tk }) :
    wpAny (model PySem.Challenge.rw_wy0040_01.row.toRowW.prog w) ((ktrTop dp un gd cn cs L fa ccd cl outer).deeper (envOfC "_law_closed" scope LL 271 (.ref 270)))
      (eval elt (compEnvC csc [("rows", LL + 1 + 1 + 1)] C (envOfC "_law_closed" scope LL 271 (.ref 270)))) Q E s := by
  conv at hb => {rhs; arg 1; whnf}
  conv at hb => {rhs; arg 2; arg 1; whnf}
  conv at hb => {rhs; arg 2; arg 2; whnf}
  simp only [Prod.mk.injEq] at hb
  obtain ⟨rfl, rfl, rfl⟩ := hb
  revert XX
  k_fill
  intro XX
  obtain ⟨ra, ha1, ha2, ha3, ha4⟩ := row_at (r0 := r0) (n := i) hrl (by (first | lia | omega))
  obtain ⟨rb, hb1, hb2, hb3, hb4⟩ := row_at (r0 := r0) (n := i + 1) hrl (by (first | lia | omega))
  (repeat' (first | (k_unfold; (try dsimp only)) | ((fail_if_success (with_reducible first | show wpAny _ _ (PySem.call (Value.ref _) _) _ _ _ | show wpAny _ _ (pyIter (Value.ref _)) _ _ _ | show wpAny _ _ (exec (Stmt.For _ _ _ _ _) _) _ _ _ | show wpAny _ _ (subscriptTail _ _ _ _) _ _ _ | show DEnd _ _ _ _ _ _ _ _ _ _ _ _ _ _ | show wpAny _ _ (setItem _ _ _) _ _ _ | show wpAny _ _ (getItem _ _) _ _ _ | show LCg.CompSrc _ _ _ _ _ _ _ _ _ _ _ _ _ _ | show LCg.CompEnd _ _ _ _ _ _ _ _ _ _ _ _ _ _ | show wpAny _ _ (eval (Expr.ListComp _ _ _ _) _) _ _ _ | show wpAny _ _ (eval (Expr.DictComp _ _ _ _ _) _) _ _ _ | show wpAny _ _ (exec (Stmt.Assign _ (Expr.ListComp _ _ _ _) _) _) _ _ _ | show wpAny _ _ (exec (Stmt.Assign _ (Expr.DictComp _ _ _ _ _) _) _) _ _ _ | show _ ≤ _)); (first | walk1 | (dsimp only; walk1)) <;> (try dsimp only)) | (leave1; try dsimp only) | fail "no step"))
  refine item_litK (isL N (by (with_reducible repeat' first | exact List.mem_cons_self .. | refine List.mem_cons_of_mem _ ?_))) (by (first | lia | omega)) (by (first | lia | omega)) (by rw [show ((0 : Int) + (i : Int) + 1).toNat = i + 1 by (first | lia | omega)]; exact hb2) ?_ (by with_unfolding_all rfl)
  (repeat' (first | (k_unfold; (try dsimp only)) | ((fail_if_success (with_reducible first | show wpAny _ _ (PySem.call (Value.ref _) _) _ _ _ | show wpAny _ _ (pyIter (Value.ref _)) _ _ _ | show wpAny _ _ (exec (Stmt.For _ _ _ _ _) _) _ _ _ | show wpAny _ _ (subscriptTail _ _ _ _) _ _ _ | show DEnd _ _ _ _ _ _ _ _ _ _ _ _ _ _ | show wpAny _ _ (setItem _ _ _) _ _ _ | show wpAny _ _ (getItem _ _) _ _ _ | show LCg.CompSrc _ _ _ _ _ _ _ _ _ _ _ _ _ _ | show LCg.CompEnd _ _ _ _ _ _ _ _ _ _ _ _ _ _ | show wpAny _ _ (eval (Expr.ListComp _ _ _ _) _) _ _ _ | show wpAny _ _ (eval (Expr.DictComp _ _ _ _ _) _) _ _ _ | show wpAny _ _ (exec (Stmt.Assign _ (Expr.ListComp _ _ _ _) _) _) _ _ _ | show wpAny _ _ (exec (Stmt.Assign _ (Expr.DictComp _ _ _ _ _) _) _) _ _ _ | show _ ≤ _)); (first | walk1 | (dsimp only; walk1)) <;> (try dsimp only)) | (leave1; try dsimp only) | fail "no step"))
  obtain ⟨Rrb, prb1, prb2, prb3⟩ := nd.split (p := rb.obj) (List.mem_cons_of_mem _ (List.mem_cons_of_mem _ (List.mem_cons_of_mem _ (List.mem_append_left tl hb3))))
  refine' Ok.use2 Rrb ?q1 F ?q3 N ?q5 ?q6 ?q7 (ccount (rows rb hb4).hd (rows rb hb4).di (Nat.lt_trans (by decide) (rows rb hb4).far)) prb1 ?qa ?qd ?qu ?_
  case q1 => k_asm
  case q3 => k_asm
  case q5 => k_asm
  case q6 => exact rfl
  case q7 => assumption
  case qa =>
    intro p hp
    rw [List.mem_singleton.mp hp]
    exact prb3
  case qd => (first | exact room1 (by assumption) rfl | exact room0 (by assumption) | ktr_room)
  case qu => (first | exact units1 (by assumption) rfl | ktr_units)
  intro b7 r7 n7 h7 tk7 U7 F7 N7 hp7
  obtain ⟨t7, rfl, rfl⟩ := hp7
  replace N7 := cb_drop N7 prb2
  clear U7
  try dsimp only
  (repeat' (first | (k_unfold; (try dsimp only)) | ((fail_if_success (with_reducible first | show wpAny _ _ (PySem.call (Value.ref _) _) _ _ _ | show wpAny _ _ (pyIter (Value.ref _)) _ _ _ | show wpAny _ _ (exec (Stmt.For _ _ _ _ _) _) _ _ _ | show wpAny _ _ (subscriptTail _ _ _ _) _ _ _ | show DEnd _ _ _ _ _ _ _ _ _ _ _ _ _ _ | show wpAny _ _ (setItem _ _ _) _ _ _ | show wpAny _ _ (getItem _ _) _ _ _ | show LCg.CompSrc _ _ _ _ _ _ _ _ _ _ _ _ _ _ | show LCg.CompEnd _ _ _ _ _ _ _ _ _ _ _ _ _ _ | show wpAny _ _ (eval (Expr.ListComp _ _ _ _) _) _ _ _ | show wpAny _ _ (eval (Expr.DictComp _ _ _ _ _) _) _ _ _ | show wpAny _ _ (exec (Stmt.Assign _ (Expr.ListComp _ _ _ _) _) _) _ _ _ | show wpAny _ _ (exec (Stmt.Assign _ (Expr.DictComp _ _ _ _ _) _) _) _ _ _ | show _ ≤ _)); (first | walk1 | (dsimp only; walk1)) <;> (try dsimp only)) | (leave1; try dsimp only) | fail "no step"))
  refine item_litK (isL N7 (by (with_reducible repeat' first | exact List.mem_cons_self .. | refine List.mem_cons_of_mem _ ?_))) (by (first | lia | omega)) (by (first | lia | omega)) (by rw [show ((0 : Int) + (i : Int)).toNat = i by (first | lia | omega)]; exact ha2) ?_ (by with_unfolding_all rfl)
  (repeat' (first | (k_unfold; (try dsimp only)) | ((fail_if_success (with_reducible first | show wpAny _ _ (PySem.call (Value.ref _) _) _ _ _ | show wpAny _ _ (pyIter (Value.ref _)) _ _ _ | show wpAny _ _ (exec (Stmt.For _ _ _ _ _) _) _ _ _ | show wpAny _ _ (subscriptTail _ _ _ _) _ _ _ | show DEnd _ _ _ _ _ _ _ _ _ _ _ _ _ _ | show wpAny _ _ (setItem _ _ _) _ _ _ | show wpAny _ _ (getItem _ _) _ _ _ | show LCg.CompSrc _ _ _ _ _ _ _ _ _ _ _ _ _ _ | show LCg.CompEnd _ _ _ _ _ _ _ _ _ _ _ _ _ _ | show wpAny _ _ (eval (Expr.ListComp _ _ _ _) _) _ _ _ | show wpAny _ _ (eval (Expr.DictComp _ _ _ _ _) _) _ _ _ | show wpAny _ _ (exec (Stmt.Assign _ (Expr.ListComp _ _ _ _) _) _) _ _ _ | show wpAny _ _ (exec (Stmt.Assign _ (Expr.DictComp _ _ _ _ _) _) _) _ _ _ | show _ ≤ _)); (first | walk1 | (dsimp only; walk1)) <;> (try dsimp only)) | (leave1; try dsimp only) | fail "no step"))
  obtain ⟨Rra, pra1, pra2, pra3⟩ := nd.split (p := ra.obj) (List.mem_cons_of_mem _ (List.mem_cons_of_mem _ (List.mem_cons_of_mem _ (List.mem_append_left tl ha3))))
  refine' Ok.use2 Rra ?w1 F7 ?w3 N7 ?w5 ?w6 ?w7 (ccount (rows ra ha4).hd (rows ra ha4).di (Nat.lt_trans (by decide) (rows ra ha4).far)) pra1 ?wa ?wd ?wu ?_
  case w1 => k_asm
  case w3 => k_asm
  case w5 => k_asm
  case w6 => exact rfl
  case w7 => assumption
  case wa =>
    intro p hp
    rw [List.mem_singleton.mp hp]
    exact pra3
  case wd => (first | exact room1 (by assumption) rfl | exact room0 (by assumption) | ktr_room)
  case wu => (first | exact units1 (by assumption) rfl | ktr_units)
  intro b8 r8 n8 h8 tk8 U8 F8 N8 hp8
  obtain ⟨t8, rfl, rfl⟩ := hp8
  replace N8 := cb_drop N8 pra2
  clear U8
  try dsimp only
  (repeat' (first | (k_unfold; (try dsimp only)) | ((fail_if_success (with_reducible first | show wpAny _ _ (PySem.call (Value.ref _) _) _ _ _ | show wpAny _ _ (pyIter (Value.ref _)) _ _ _ | show wpAny _ _ (exec (Stmt.For _ _ _ _ _) _) _ _ _ | show wpAny _ _ (subscriptTail _ _ _ _) _ _ _ | show DEnd _ _ _ _ _ _ _ _ _ _ _ _ _ _ | show wpAny _ _ (setItem _ _ _) _ _ _ | show wpAny _ _ (getItem _ _) _ _ _ | show LCg.CompSrc _ _ _ _ _ _ _ _ _ _ _ _ _ _ | show LCg.CompEnd _ _ _ _ _ _ _ _ _ _ _ _ _ _ | show wpAny _ _ (eval (Expr.ListComp _ _ _ _) _) _ _ _ | show wpAny _ _ (eval (Expr.DictComp _ _ _ _ _) _) _ _ _ | show wpAny _ _ (exec (Stmt.Assign _ (Expr.ListComp _ _ _ _) _) _) _ _ _ | show wpAny _ _ (exec (Stmt.Assign _ (Expr.DictComp _ _ _ _ _) _) _) _ _ _ | show _ ≤ _)); (first | walk1 | (dsimp only; walk1)) <;> (try dsimp only)) | (leave1; try dsimp only) | fail "no step"))
  rw [hsum _ _ ha1, hsum _ _ hb1]
  exact ret _ _ _ F8 N8
end
end
theorem offLC6 : True := by
  w_top off
  exact True.intro
section
open PySem PySem.W PySem.Spec PySem.Calls PyProof.Rows
section
variable {w : World} {p : Program} {loose : List PySem.Str} {mean : ExcName → Option Value} {mg mb : PySem.Str → Option Value}
noncomputable def OkM (w : World) (p : Program) (loose : List PySem.Str) (mean : ExcName → Option Value) (mg mb : PySem.Str → Option Value) (f : Addr) (vs : List Value) (need : Nat) (news : Led) (Post : Nat → Led → Addr → Prop) : Prop :=
  ∀ (dp un : Nat) (gd : Option (List Code)) (cn : PySem.Str) (cs : Scope) (a : Addr) (ccd : Value) (cl : List (PySem.Str × Addr)) (outer : List Env) (A₀ : Around) (base h₀ : Heap) (L : Addr) (m : PySem.Str → Option Value) (s : Shared) (rest : Led)
    (Q E : Value → Shared → Prop),
    Below A₀ base outer h₀ → Fr h₀ L s.heap m → (hd.heap_1 w.params).In h₀ → News h₀ L s.heap (news ++ rest) → Apart news rest → Top p loose mean mg mb h₀ → cs.kind = .function → Codes base → dp + need < recursionLimit → un + 8 * need < cLine →
    (∀ b R news' h' tk', Under b (news ++ rest) → (∀ q ∈ rest, @Ne Nat q.1 R) → Fr h₀ L h' m → News h₀ L h' (news' ++ rest) → Post b news' R → Q (.ref R) { s with heap := h', toks := tk' }) →
    wpAny (model PySem.Challenge.rw_wy0040_01.row.toRowW.prog w) (ktrTop dp un gd cn cs L a ccd cl outer) (call (.ref f) vs) Q E s
theorem nmO1 {h₀ h : Heap} {L a : Addr} {ob : Obj} {p0 : Addr × Obj} {r : Led} (_ : News h₀ L h (p0 :: (a, ob) :: r)) : ∃ a', a' = ob := ⟨_, rfl⟩
theorem nmO8 {h₀ h : Heap} {L a : Addr} {ob : Obj} {p0 p1 p2 p3 p4 p5 p6 p7 : Addr × Obj} {r : Led} (_ : News h₀ L h (p0 :: p1 :: p2 :: p3 :: p4 :: p5 :: p6 :: p7 :: (a, ob) :: r)) : ∃ a', a' = ob := ⟨_, rfl⟩
theorem nmO9 {h₀ h : Heap} {L a : Addr} {ob : Obj} {p0 p1 p2 p3 p4 p5 p6 p7 p8 : Addr × Obj} {r : Led} (_ : News h₀ L h (p0 :: p1 :: p2 :: p3 :: p4 :: p5 :: p6 :: p7 :: p8 :: (a, ob) :: r)) : ∃ a', a' = ob := ⟨_, rfl⟩
inductive ClJ (w : World) (o : Nat → Nat) (s1 : Int) (t9 : Tok) (aA LL RW i5 : Addr) (oA o5 oR oS : Obj) (c2 : Addr) (r0 : RE) (k : Nat) (m' : PySem.Str → Option Value) (n' : Led) : Prop
  | mk (a1 : m' "lift" = some (.int lftV t9)) (dT : Addr) (oT : Obj) (kT : List (PySem.Str × Value)) (eT : Ents) (x1 x2 : Obj) (rt : List RE) (cp : Nat) (u1 : Option Value) (e : n' = (LL + 1 + 1 + 1 + 1 + 1, x1) :: (dT, oT) :: (LL + 1 + 1 + 1 + 1, x2) :: (LL + 1, o5) :: (aA, oA) :: (RW, lstC (r0.ref :: List.map RE.ref rt) cp) :: (LL + 1 + 1 + 1, oR) :: (LL + 1 + 1, oS) :: r0.obj :: (rt.map RE.obj ++ [(54, tab54 c2)])) (nd : DistL ((LL + 1 + 1 + 1 + 1 + 1, x1) :: (dT, oT) :: (LL + 1 + 1 + 1 + 1, x2) :: (LL + 1, o5) :: (aA, oA) :: (RW, lstC (r0.ref :: List.map RE.ref rt) cp) :: (LL + 1 + 1 + 1, oR) :: (LL + 1 + 1, oS) :: r0.obj :: (rt.map RE.obj ++ [(54, tab54 c2), (i5, r0.o)])))
      (hT : oT.IsDictOf (PySem.strKind PySem.Challenge.rw_wy0040_01.row.toRowW.prog w) kT) (hk : DInts kT eT) (hl : ∀ j, j < 8 → lookI eT (key j) = some (Tk o s1 k j)) (h1 : x1.data = .cell u1) (h2 : x2.data = .cell (some (.ref dT))) (hr : ∀ r ∈ r0 :: rt, RowOk w r) (hn : rt.length = k) (hs : ∀ q r, (r0 :: rt)[q]? = some r → sumI r.e = psum o s1 q ∧ r.e.length ≤ 8 * q)
inductive PCL (o : Nat → Nat) (s1 : Int) (c2 : Addr) (n' : Led) (R : Addr) : Prop
  | mk (out : List Value) (k : Nat) (h : IntsAre out (cntL o s1)) (e : n' = [(R, lstC out k), (54, tab54 c2)])
set_option maxHeartbeats 4000000 in
theorem lclosed {o : Nat → Nat} {s1 : Int} {aA c2 : Addr} {oA oc2 : Obj} {kA : List (PySem.Str × Value)} {ds : List IE} (hs1 : -3 ≤ s1) (hs2 : s1 ≤ 4) (hc2 : CodeAt q54 oc2) (l2 : @LT.lt Nat _ 54 c2) (lA : @LT.lt Nat _ 54 aA) (nA : @Ne Nat c2 aA)
    (hA : oA.IsDictOf (PySem.strKind PySem.Challenge.rw_wy0040_01.row.toRowW.prog w) kA) (aft : AftIs w o s1 kA ds) (hds : ∀ e ∈ ds, @Ne Nat c2 e.d ∧ @Ne Nat aA e.d) :
    OkM w p loose mean mg mb 271 [.ref aA] 150 ([(54, tab54 c2), (c2, oc2), (aA, oA)] ++ ds.map IE.obj)
      (fun _ => PCL o s1 c2) := by
  unfold OkM
  k_fill
  intro dp un gd cn cs fa ccd cl outer A₀ base h₀ L m s rest Q E B F X N ap T hk hC hd hu hret
  have ap2 : Apart [(54, tab54 c2), (c2, oc2), (aA, oA)] (ds.map IE.obj ++ rest) := apart_move ap (fun q hq q2 hq2 => by
    obtain ⟨e, hee, rfl⟩ := List.mem_map.mp hq2
    obtain ⟨y1, y2⟩ := hds e hee
    have y3 := aft.far e hee
    rcases List.mem_cons.mp hq with rfl | hq
    · exact Nat.ne_of_lt y3
    rcases List.mem_cons.mp hq with rfl | hq
    · exact y1
    rcases List.mem_cons.mp hq with rfl | hq
    · exact y2
    cases hq)
  have N2 : News h₀ L s.heap ([(54, tab54 c2), (c2, oc2), (aA, oA)] ++ (ds.map IE.obj ++ rest)) := by rw [← List.append_assoc]; exact N
  have hret2 := hret
  clear hret
  clear ap N
  have N := N2
  clear N2
  refine wpAny_call ?_
  (k_dflt (refine' code_defCR ?k1n40 ?k2n40 ?k3n40 ?k4n40 ?kapn40 ?k5n40 ?kAn40 ?kFn40 ?kKn40 ?k6n40 ?k7n40 ?k8n40 ?k9n40 ?kBn40 ?kDn40 ?_ ?c2n40 ?c3n40 ?c4n40; (case kAn40 | kFn40 => exact rfl); (case kKn40 | k4n40 | kapn40 => assumption); (case k1n40 | k2n40 | k3n40 | k5n40 => k_asm); (case k6n40 | k7n40 => k_is); (case k8n40 => (first | exact room1 (by assumption) rfl | exact room0 (by assumption) | ktr_room)); (case k9n40 => exact BindsTo.of_eq rfl); (case kBn40 => exact rfl); (case kDn40 => decide +kernel); (case c2n40 | c3n40 | c4n40 => exact rfl))); ktr_step
  rename_i gg LL hh0 tk0 FG F0 BB XX TT lr0 hRs hU l0a l0b l0c o1 o2 o3 o4 o5 e1 e2 e3 e4 e5 NC
  have c1 : o1.data = .cell none := by rw [e1]; kernel_rfl
  have c2' : o2.data = .cell none := by rw [e2]; kernel_rfl
  have c3 : o3.data = .cell none := by rw [e3]; kernel_rfl
  have c4 : o4.data = .cell none := by rw [e4]; kernel_rfl
  have c5 : o5.data = .cell (some (.ref aA)) := by rw [e5]; kernel_rfl
  clear e1 e2 e3 e4 e5
  (repeat' (first | (k_unfold; (try dsimp only)) | ((fail_if_success (with_reducible first | show wpAny _ _ (PySem.call (Value.ref _) _) _ _ _ | show wpAny _ _ (pyIter (Value.ref _)) _ _ _ | show wpAny _ _ (exec (Stmt.For _ _ _ _ _) _) _ _ _ | show LCg.CompSrc _ _ _ _ _ _ _ _ _ _ _ _ _ _ | show LCg.CompEnd _ _ _ _ _ _ _ _ _ _ _ _ _ _ | show wpAny _ _ (eval (Expr.ListComp _ _ _ _) _) _ _ _ | show wpAny _ _ (eval (Expr.DictComp _ _ _ _ _) _) _ _ _ | show wpAny _ _ (exec (Stmt.Assign _ (Expr.ListComp _ _ _ _) _) _) _ _ _ | show wpAny _ _ (exec (Stmt.Assign _ (Expr.DictComp _ _ _ _ _) _) _) _ _ _ | show _ ≤ _)); (first | walk1 | (dsimp only; walk1)) <;> (try dsimp only)) | (leave1; try dsimp only) | fail "no step"))
  rename IntsAre _ _ => i1
  (k_dflt (refine' Ok.use ?k1n39 ?k2n39 ?k3n39 ?k4n39 ?k5n39 ?kKn39 ?kCn39 (d2i_hit (c := c2) (n := 32) hc2 l2 (by k_ne) i1 (by simp) (by (first | lia | omega)) (by simp; decide +kernel) (by simp)) ?kPn39 ?kapn39 ?kdn39 ?kun39 ?_); (case k1n39 | k2n39 | k3n39 | k4n39 | k5n39 => k_asm); (case kKn39 => exact rfl); (case kCn39 => assumption); (case kPn39 => (repeat' first | exact Picks.nil | (with_reducible exact Pick.head) | apply Picks.cons | apply Pick.tail)); (case kapn39 => (k_whole; unfold Apart; repeat' (first | exact List.forall_mem_nil _ | (refine List.forall_mem_cons.mpr ⟨?_, ?_⟩) | k_ne))); (case kdn39 => (first | exact room1 (by assumption) rfl | exact room0 (by assumption) | ktr_room)); (case kun39 => (first | exact units1 (by assumption) rfl | ktr_units)))
  intro b9 r9 n9 h9 tk9 U9 F9 N9 hp9
  obtain ⟨t9, rfl, rfl⟩ := hp9
  simp only [List.cons_append, List.nil_append, List.append_nil] at N9 U9
  unfold Under at U9
  k_lt U9
  try dsimp only
  (repeat' (first | (k_unfold; (try dsimp only)) | ((fail_if_success (with_reducible first | show wpAny _ _ (PySem.call (Value.ref _) _) _ _ _ | show wpAny _ _ (pyIter (Value.ref _)) _ _ _ | show wpAny _ _ (exec (Stmt.For _ _ _ _ _) _) _ _ _ | show LCg.CompSrc _ _ _ _ _ _ _ _ _ _ _ _ _ _ | show LCg.CompEnd _ _ _ _ _ _ _ _ _ _ _ _ _ _ | show wpAny _ _ (eval (Expr.ListComp _ _ _ _) _) _ _ _ | show wpAny _ _ (eval (Expr.DictComp _ _ _ _ _) _) _ _ _ | show wpAny _ _ (exec (Stmt.Assign _ (Expr.ListComp _ _ _ _) _) _) _ _ _ | show wpAny _ _ (exec (Stmt.Assign _ (Expr.DictComp _ _ _ _ _) _) _) _ _ _ | show _ ≤ _)); (first | walk1 | (dsimp only; walk1)) <;> (try dsimp only)) | (leave1; try dsimp only) | fail "no step"))
  (rename News _ _ _ _ => lN1)
  (rename Fr _ _ _ _ => lF1)
  obtain ⟨RW, e⟩ := nmA0 lN1; subst e
  obtain ⟨d0, e⟩ := nmA1 lN1; subst e
  obtain ⟨od0, e⟩ := nmO1 lN1; subst e
  obtain ⟨oR, e⟩ := nmO8 lN1; subst e
  obtain ⟨oS, e⟩ := nmO9 lN1; subst e
  rename Obj.IsDictOf _ od0 _ => hd0
  replace lN1 := cb_drop (news := [(RW, lstO [.ref d0]), (d0, od0), (LL + 1 + 1 + 1 + 1 + 1, o1), (LL + 1 + 1 + 1 + 1, o2), (LL + 1 + 1 + 1, oR), (LL + 1 + 1, oS), (LL + 1, o5), (aA, oA), (54, tab54 c2)]) lN1 (by (with_reducible repeat' first | exact List.forall_mem_nil _ | refine List.forall_mem_cons.mpr ⟨?_, ?_⟩ | exact List.mem_cons_self .. | refine List.mem_cons_of_mem _ ?_))
  refine wpAny_Assign_Name ?_
  refine' DictComp_N (PySem.strKind _ _) lF1 ?e1 ?e2 ?e3 ?e4 ?e5 ?e6 (by intro _; rfl)
  case e1 => exact rfl
  case e2 => decide
  case e3 => exact rfl
  case e4 => decide
  case e5 => exact rfl
  (repeat' (first | (k_unfold; (try dsimp only)) | ((fail_if_success (with_reducible first | show wpAny _ _ (PySem.call (Value.ref _) _) _ _ _ | show wpAny _ _ (pyIter (Value.ref _)) _ _ _ | show wpAny _ _ (exec (Stmt.For _ _ _ _ _) _) _ _ _ | show LCg.CompSrc _ _ _ _ _ _ _ _ _ _ _ _ _ _ | show LCg.CompEnd _ _ _ _ _ _ _ _ _ _ _ _ _ _ | show wpAny _ _ (eval (Expr.ListComp _ _ _ _) _) _ _ _ | show wpAny _ _ (eval (Expr.DictComp _ _ _ _ _) _) _ _ _ | show wpAny _ _ (exec (Stmt.Assign _ (Expr.ListComp _ _ _ _) _) _) _ _ _ | show wpAny _ _ (exec (Stmt.Assign _ (Expr.DictComp _ _ _ _ _) _) _) _ _ _ | show _ ≤ _)); (first | walk1 | (dsimp only; walk1)) <;> (try dsimp only)) | (leave1; try dsimp only) | fail "no step"))
  (rename IsRange _ _ _ _ _ _ _ _ => lR2); (rename Fr _ _ _ _ => lF2); (rename News _ _ _ _ => lN2)
  have lN3 := cb_drop (news := [(RW, lstO [.ref d0]), (d0, od0), (LL + 1 + 1 + 1 + 1 + 1, o1), (LL + 1 + 1 + 1 + 1, o2), (LL + 1 + 1 + 1, oR), (LL + 1 + 1, oS), (LL + 1, o5), (aA, oA), (54, tab54 c2)]) lN2 (by (with_reducible repeat' first | exact List.forall_mem_nil _ | refine List.forall_mem_cons.mpr ⟨?_, ?_⟩ | exact List.mem_cons_self .. | refine List.mem_cons_of_mem _ ?_))
  refine dsrc_range (n := 8) (fun i kvs news => DInts kvs (tabE (fun i => 2 ^ (32 * i)) i) ∧ news = [(RW, lstO [.ref d0]), (d0, od0), (LL + 1 + 1 + 1 + 1 + 1, o1), (LL + 1 + 1 + 1 + 1, o2), (LL + 1 + 1 + 1, oR), (LL + 1 + 1, oS), (LL + 1, o5), (aA, oA), (54, tab54 c2)]) (by rfl) lF2 lN3 lR2 (by decide) (by decide) (by decide) ⟨.nil, rfl⟩ ?turn1 ?fin1
  case turn1 =>
    rintro i kvs nw hi ⟨hk, rfl⟩
    unfold DTurn
    rintro v I1 oI C oC D oD m2 h1 tk1 E1 ⟨tj, rfl⟩ hCo hx hdD F1 N1 off1 ne1
    (repeat' (first | (k_unfold; (try dsimp only)) | ((fail_if_success (with_reducible first | show wpAny _ _ (PySem.call (Value.ref _) _) _ _ _ | show wpAny _ _ (pyIter (Value.ref _)) _ _ _ | show wpAny _ _ (exec (Stmt.For _ _ _ _ _) _) _ _ _ | show wpAny _ _ (subscriptTail _ _ _ _) _ _ _ | show DEnd _ _ _ _ _ _ _ _ _ _ _ _ _ _ | show wpAny _ _ (setItem _ _ _) _ _ _ | show wpAny _ _ (getItem _ _) _ _ _ | show LCg.CompSrc _ _ _ _ _ _ _ _ _ _ _ _ _ _ | show LCg.CompEnd _ _ _ _ _ _ _ _ _ _ _ _ _ _ | show wpAny _ _ (eval (Expr.ListComp _ _ _ _) _) _ _ _ | show wpAny _ _ (eval (Expr.DictComp _ _ _ _ _) _) _ _ _ | show wpAny _ _ (exec (Stmt.Assign _ (Expr.ListComp _ _ _ _) _) _) _ _ _ | show wpAny _ _ (exec (Stmt.Assign _ (Expr.DictComp _ _ _ _ _) _) _) _ _ _ | show _ ≤ _)); (first | walk1 | (dsimp only; walk1)) <;> (try dsimp only)) | (leave1; try dsimp only) | fail "no step"))
    refine KXi.item (n := 8) (by rfl) (by (first | lia | omega)) (by (first | lia | omega)) (by decide) ?_
    intro _
    (repeat' (first | (k_unfold; (try dsimp only)) | ((fail_if_success (with_reducible first | show wpAny _ _ (PySem.call (Value.ref _) _) _ _ _ | show wpAny _ _ (pyIter (Value.ref _)) _ _ _ | show wpAny _ _ (exec (Stmt.For _ _ _ _ _) _) _ _ _ | show wpAny _ _ (subscriptTail _ _ _ _) _ _ _ | show DEnd _ _ _ _ _ _ _ _ _ _ _ _ _ _ | show wpAny _ _ (setItem _ _ _) _ _ _ | show wpAny _ _ (getItem _ _) _ _ _ | show LCg.CompSrc _ _ _ _ _ _ _ _ _ _ _ _ _ _ | show LCg.CompEnd _ _ _ _ _ _ _ _ _ _ _ _ _ _ | show wpAny _ _ (eval (Expr.ListComp _ _ _ _) _) _ _ _ | show wpAny _ _ (eval (Expr.DictComp _ _ _ _ _) _) _ _ _ | show wpAny _ _ (exec (Stmt.Assign _ (Expr.ListComp _ _ _ _) _) _) _ _ _ | show wpAny _ _ (exec (Stmt.Assign _ (Expr.DictComp _ _ _ _ _) _) _) _ _ _ | show _ ≤ _)); (first | walk1 | (dsimp only; walk1)) <;> (try dsimp only)) | (leave1; try dsimp only) | fail "no step"))
    (rename News _ _ _ _ => lN4)
    (rename Fr _ _ _ _ => lF4)
    have e0 : (0 : Int) + (i : Int) = (i : Int) := Int.zero_add _
    refine dend lF4 lN4 (strKind_is _ _ _ _) [(RW, lstO [.ref d0]), (d0, od0), (LL + 1 + 1 + 1 + 1 + 1, o1), (LL + 1 + 1 + 1 + 1, o2), (LL + 1 + 1 + 1, oR), (LL + 1 + 1, oS), (LL + 1, o5), (aA, oA), (54, tab54 c2)] (by (with_reducible repeat' first | exact List.forall_mem_nil _ | refine List.forall_mem_cons.mpr ⟨?_, ?_⟩ | exact List.mem_cons_self .. | refine List.mem_cons_of_mem _ ?_)) off1 trivial ⟨?_, rfl⟩
    rw [e0, show (32 * (i : Int)).toNat = 32 * i by (first | lia | omega)]
    have hp := hk.put (key i) (2 ^ (32 * i))
    rw [tab_put hi rfl] at hp
    exact hp _
  case fin1 =>
    rintro D1 h1 tk1 kvT oT nw F1 N1 hT off1 ltD ⟨hkT, rfl⟩
    have v := LCoff off1
    (repeat' (first | (k_unfold; (try dsimp only)) | ((fail_if_success (with_reducible first | show wpAny _ _ (PySem.call (Value.ref _) _) _ _ _ | show wpAny _ _ (pyIter (Value.ref _)) _ _ _ | show wpAny _ _ (exec (Stmt.For _ _ _ _ _) _) _ _ _ | show LCg.CompSrc _ _ _ _ _ _ _ _ _ _ _ _ _ _ | show LCg.CompEnd _ _ _ _ _ _ _ _ _ _ _ _ _ _ | show wpAny _ _ (eval (Expr.ListComp _ _ _ _) _) _ _ _ | show wpAny _ _ (eval (Expr.DictComp _ _ _ _ _) _) _ _ _ | show wpAny _ _ (exec (Stmt.Assign _ (Expr.ListComp _ _ _ _) _) _) _ _ _ | show wpAny _ _ (exec (Stmt.Assign _ (Expr.DictComp _ _ _ _ _) _) _) _ _ _ | show _ ≤ _)); (first | walk1 | (dsimp only; walk1)) <;> (try dsimp only)) | (leave1; try dsimp only) | fail "no step"))
    have v4 : @Ne Nat D1 (LL + 1 + 1 + 1 + 1) := (v (LL + 1 + 1 + 1 + 1, o2) (by (with_reducible repeat' first | exact List.mem_cons_self .. | refine List.mem_cons_of_mem _ ?_))).symm
    refine storeX_C F1 (cb_drop (news := (LL + 1 + 1 + 1 + 1, o2) :: (D1, oT) :: [(RW, lstO [.ref d0]), (d0, od0), (LL + 1 + 1 + 1 + 1 + 1, o1), (LL + 1 + 1 + 1, oR), (LL + 1 + 1, oS), (LL + 1, o5), (aA, oA), (54, tab54 c2)]) N1 (by (with_reducible repeat' first | exact List.forall_mem_nil _ | refine List.forall_mem_cons.mpr ⟨?_, ?_⟩ | exact List.mem_cons_self .. | refine List.mem_cons_of_mem _ ?_))) rfl (.head (by (repeat' first | exact List.forall_mem_nil _ | assumption | refine List.forall_mem_cons.mpr ⟨?_, ?_⟩ | k_ne))) c2' ?_
    intro h2 oTab F2 N2 dTab
    clear F1 N1
    (repeat' (first | (k_unfold; (try dsimp only)) | ((fail_if_success (with_reducible first | show wpAny _ _ (PySem.call (Value.ref _) _) _ _ _ | show wpAny _ _ (pyIter (Value.ref _)) _ _ _ | show wpAny _ _ (exec (Stmt.For _ _ _ _ _) _) _ _ _ | show LCg.CompSrc _ _ _ _ _ _ _ _ _ _ _ _ _ _ | show LCg.CompEnd _ _ _ _ _ _ _ _ _ _ _ _ _ _ | show wpAny _ _ (eval (Expr.ListComp _ _ _ _) _) _ _ _ | show wpAny _ _ (eval (Expr.DictComp _ _ _ _ _) _) _ _ _ | show wpAny _ _ (exec (Stmt.Assign _ (Expr.ListComp _ _ _ _) _) _) _ _ _ | show wpAny _ _ (exec (Stmt.Assign _ (Expr.DictComp _ _ _ _ _) _) _) _ _ _ | show _ ≤ _)); (first | walk1 | (dsimp only; walk1)) <;> (try dsimp only)) | (leave1; try dsimp only) | fail "no step"))
    walk1
    (repeat' (first | (k_unfold; (try dsimp only)) | ((fail_if_success (with_reducible first | show wpAny _ _ (PySem.call (Value.ref _) _) _ _ _ | show wpAny _ _ (pyIter (Value.ref _)) _ _ _ | show wpAny _ _ (exec (Stmt.For _ _ _ _ _) _) _ _ _ | show LCg.CompSrc _ _ _ _ _ _ _ _ _ _ _ _ _ _ | show LCg.CompEnd _ _ _ _ _ _ _ _ _ _ _ _ _ _ | show wpAny _ _ (eval (Expr.ListComp _ _ _ _) _) _ _ _ | show wpAny _ _ (eval (Expr.DictComp _ _ _ _ _) _) _ _ _ | show wpAny _ _ (exec (Stmt.Assign _ (Expr.ListComp _ _ _ _) _) _) _ _ _ | show wpAny _ _ (exec (Stmt.Assign _ (Expr.DictComp _ _ _ _ _) _) _) _ _ _ | show _ ≤ _)); (first | walk1 | (dsimp only; walk1)) <;> (try dsimp only)) | (leave1; try dsimp only) | fail "no step"))
    (rename IsRange _ _ _ _ _ _ _ _ => lR5); (rename Fr _ _ _ _ => lF5); (rename News _ _ _ _ => lN5)
    obtain ⟨r0, rfl, rfl, hr0, hkv⟩ : ∃ r0 : RE, r0.d = d0 ∧ r0.o = od0 ∧ r0.e = [] ∧ r0.kv = [] := ⟨⟨d0, od0, [], []⟩, rfl, rfl, rfl, rfl⟩
    have lN6 := cb_drop (news := [(LL + 1 + 1 + 1 + 1 + 1, o1), (D1, oT), (LL + 1 + 1 + 1 + 1, oTab), (LL + 1, o5), (aA, oA), (RW, lstC [r0.ref] 0), (LL + 1 + 1 + 1, oR), (LL + 1 + 1, oS), r0.obj, (54, tab54 c2)]) lN5 (by (with_reducible repeat' first | exact List.forall_mem_nil _ | refine List.forall_mem_cons.mpr ⟨?_, ?_⟩ | exact List.mem_cons_self .. | refine List.mem_cons_of_mem _ ?_))
    have nd00 : DistL ((D1, oT) :: [(LL + 1 + 1 + 1 + 1 + 1, o1), (LL + 1 + 1 + 1 + 1, o2), (LL + 1, o5), (aA, oA), (RW, lstO [r0.ref]), (LL + 1 + 1 + 1, oR), (LL + 1 + 1, oS), (r0.d, r0.o), (54, tab54 c2)]) := by
      refine DistL.add ?_ (fun q hq => v q ((by (with_reducible repeat' first | exact List.forall_mem_nil _ | refine List.forall_mem_cons.mpr ⟨?_, ?_⟩ | exact List.mem_cons_self .. | refine List.mem_cons_of_mem _ ?_) : ∀ q ∈ [(LL + 1 + 1 + 1 + 1 + 1, o1), (LL + 1 + 1 + 1 + 1, o2), (LL + 1, o5), (aA, oA), (RW, lstO [r0.ref]), (LL + 1 + 1 + 1, oR), (LL + 1 + 1, oS), (r0.d, r0.o), (54, tab54 c2)], q ∈ [(RW, lstO [r0.ref]), (r0.d, r0.o), (LL + 1 + 1 + 1 + 1 + 1, o1), (LL + 1 + 1 + 1 + 1, o2), (LL + 1 + 1 + 1, oR), (LL + 1 + 1, oS), (LL + 1, o5), (aA, oA), (54, tab54 c2)]) q hq))
      repeat' (first | exact List.nodup_nil | refine DistL.add ?_ (by (repeat' first | exact List.forall_mem_nil _ | assumption | refine List.forall_mem_cons.mpr ⟨?_, ?_⟩ | k_ne)))
    have nd0 : DistL [(D1, oT), (LL + 1 + 1 + 1 + 1 + 1, o1), (LL + 1 + 1 + 1 + 1, oTab), (LL + 1, o5), (aA, oA), (RW, lstC [r0.ref] 0), (LL + 1 + 1 + 1, oR), (LL + 1 + 1, oS), r0.obj, (54, tab54 c2)] := nd00
    with_unfolding_all refine iter_rangeUnr (n := 5) (by rfl) lR5 (by decide) (by decide) lF5 lN6 ?_
    intro i5 l5
    have nd1 : DistL [(LL + 1 + 1 + 1 + 1 + 1, o1), (D1, oT), (LL + 1 + 1 + 1 + 1, oTab), (LL + 1, o5), (aA, oA), (RW, lstC [r0.ref] 0), (LL + 1 + 1 + 1, oR), (LL + 1 + 1, oS), r0.obj, (54, tab54 c2), (i5, r0.o)] :=
      (DistL.cons (p := (i5, r0.o)) (nd0.perm (List.Perm.swap _ _ _)) l5).perm (List.perm_append_singleton _ _).symm
    refine range_ind (ClJ w o s1 t9 aA LL RW i5 oA o5 oR oS c2 r0) ?j0 ?j1 _ _ _ _ (by decide) ?ji
    case ji =>
      refine ⟨rfl, D1, oT, kvT, _, o1, oTab, [], 0, none, rfl, nd1, hT, hkT, fun j hj => ?_, c1, dTab, ?_, rfl, ?_⟩
      · rw [tabE_look (Nat.le_refl _) hj, Tk_zero hj]
      · intro r hr
        rw [List.mem_singleton.mp hr]
        exact ⟨by rw [hkv]; exact hd0, by rw [hkv, hr0]; exact .nil, by rw [hr0]; exact List.nodup_nil, Nat.lt_trans l0a (by assumption)⟩
      · rintro (_ | q) r hq
        · obtain rfl := Option.some.inj hq
          rw [hr0]; exact ⟨rfl, Nat.zero_le _⟩
        · simp at hq
    case j1 =>
      clear lF5 lN5 lN6 lR5 dTab hT hkT nd0 nd1 l5 v v4
      rintro k m1 n1 hk ⟨a1, dT, oT', kT, eT, x1, x2, rt, cp, u1, rfl, nd, hT, hkT, hlook, dx1, dx2, rows, hrl, hsum⟩ tt h1 tk1 F1 N1
      replace F1 := see "lift" _ F1 a1
      refine' lcTurn (tl := [(54, tab54 c2), (i5, itR (0 + ((k + 1 : Nat) : Int)) ((5 : Nat) - ((k + 1 : Nat) : Int)))]) rfl hs1 hs2 hk BB XX TT hC l0a hd hu F1 (cb_drop (news := (LL + 1 + 1 + 1 + 1 + 1, x1) :: (dT, oT') :: (LL + 1 + 1 + 1 + 1, x2) :: (LL + 1, o5) :: (aA, oA) :: (RW, lstC (r0.ref :: List.map RE.ref rt) cp) :: (LL + 1 + 1 + 1, oR) :: (LL + 1 + 1, oS) :: r0.obj :: (rt.map RE.obj ++ [(54, tab54 c2), (i5, itR (0 + ((k + 1 : Nat) : Int)) ((5 : Nat) - ((k + 1 : Nat) : Int)))])) N1 (subB [[(i5, itR (0 + ((k + 1 : Nat) : Int)) ((5 : Nat) - ((k + 1 : Nat) : Int)))], [(LL + 1 + 1 + 1 + 1 + 1, x1)], [(dT, oT')], [(LL + 1 + 1 + 1 + 1, x2)], [(LL + 1, o5)], [(aA, oA)], [(RW, lstC (r0.ref :: List.map RE.ref rt) cp)], [(LL + 1 + 1 + 1, oR)], [(LL + 1 + 1, oS)], [r0.obj], rt.map RE.obj, [(54, tab54 c2)]] 0 [1, 2, 3, 4, 5, 6, 7, 8, 9, 10, 11] 11 [0, 1, 2, 3, 4, 5, 6, 7, 8, 9, 10] rfl : ∀ q ∈ (LL + 1 + 1 + 1 + 1 + 1, x1) :: (dT, oT') :: (LL + 1 + 1 + 1 + 1, x2) :: (LL + 1, o5) :: (aA, oA) :: (RW, lstC (r0.ref :: List.map RE.ref rt) cp) :: (LL + 1 + 1 + 1, oR) :: (LL + 1 + 1, oS) :: r0.obj :: (rt.map RE.obj ++ [(54, tab54 c2), (i5, itR (0 + ((k + 1 : Nat) : Int)) ((5 : Nat) - ((k + 1 : Nat) : Int)))]), q ∈ (i5, itR (0 + ((k + 1 : Nat) : Int)) ((5 : Nat) - ((k + 1 : Nat) : Int))) :: (LL + 1 + 1 + 1 + 1 + 1, x1) :: (dT, oT') :: (LL + 1 + 1 + 1 + 1, x2) :: (LL + 1, o5) :: (aA, oA) :: (RW, lstC (r0.ref :: List.map RE.ref rt) cp) :: (LL + 1 + 1 + 1, oR) :: (LL + 1 + 1, oS) :: r0.obj :: (rt.map RE.obj ++ [(54, tab54 c2)]))) (nd.congr (by simp only [List.map_append, List.map_cons, List.map_nil])) hT hkT hlook dx1 dx2 ?x3 ?x4 c5 hA aft ?x5 rows hr0 hrl hsum ?x6 ?_
      case x3 => assumption
      case x4 => assumption
      case x5 => exact fun q hq => hRs q (List.mem_append_left _ hq)
      case x6 => passes_own
      intro h' tk' m' dT' oT1 kT' eT' x1' x2' r' cp' u1' b1 F' N' nd' hT' hkT' hl' dx1' dx2' hr' hs'
      have hoff := DistL.mid (p := (i5, itR (0 + ((k + 1 : Nat) : Int)) ((5 : Nat) - ((k + 1 : Nat) : Int)))) (a := (LL + 1 + 1 + 1 + 1 + 1, x1') :: (dT', oT1) :: (LL + 1 + 1 + 1 + 1, x2') :: (LL + 1, o5) :: (aA, oA) :: (RW, lstC (r0.ref :: List.map RE.ref (rt ++ [r'])) cp') :: (LL + 1 + 1 + 1, oR) :: (LL + 1 + 1, oS) :: r0.obj :: ((rt ++ [r']).map RE.obj ++ [(54, tab54 c2)])) (b := []) (nd'.congr (by simp only [List.map_append, List.map_cons, List.map_nil, List.cons_append, List.append_assoc, List.nil_append]))
      exact ⟨h', tk', m', (LL + 1 + 1 + 1 + 1 + 1, x1') :: (dT', oT1) :: (LL + 1 + 1 + 1 + 1, x2') :: (LL + 1, o5) :: (aA, oA) :: (RW, lstC (r0.ref :: List.map RE.ref (rt ++ [r'])) cp') :: (LL + 1 + 1 + 1, oR) :: (LL + 1 + 1, oS) :: r0.obj :: ((rt ++ [r']).map RE.obj ++ [(54, tab54 c2)]), rfl, F', cb_drop (news := (i5, itR (0 + ((k + 1 : Nat) : Int)) ((5 : Nat) - ((k + 1 : Nat) : Int))) :: (LL + 1 + 1 + 1 + 1 + 1, x1') :: (dT', oT1) :: (LL + 1 + 1 + 1 + 1, x2') :: (LL + 1, o5) :: (aA, oA) :: (RW, lstC (r0.ref :: List.map RE.ref (rt ++ [r'])) cp') :: (LL + 1 + 1 + 1, oR) :: (LL + 1 + 1, oS) :: r0.obj :: ((rt ++ [r']).map RE.obj ++ [(54, tab54 c2)])) N' (subB [[(LL + 1 + 1 + 1 + 1 + 1, x1')], [(dT', oT1)], [(LL + 1 + 1 + 1 + 1, x2')], [(LL + 1, o5)], [(aA, oA)], [(RW, lstC (r0.ref :: List.map RE.ref (rt ++ [r'])) cp')], [(LL + 1 + 1 + 1, oR)], [(LL + 1 + 1, oS)], [r0.obj], (rt ++ [r']).map RE.obj, [(54, tab54 c2)], [(i5, itR (0 + ((k + 1 : Nat) : Int)) ((5 : Nat) - ((k + 1 : Nat) : Int)))]] 10 [11, 0, 1, 2, 3, 4, 5, 6, 7, 8, 9] 11 [0, 1, 2, 3, 4, 5, 6, 7, 8, 9, 10] rfl : ∀ q ∈ (i5, itR (0 + ((k + 1 : Nat) : Int)) ((5 : Nat) - ((k + 1 : Nat) : Int))) :: (LL + 1 + 1 + 1 + 1 + 1, x1') :: (dT', oT1) :: (LL + 1 + 1 + 1 + 1, x2') :: (LL + 1, o5) :: (aA, oA) :: (RW, lstC (r0.ref :: List.map RE.ref (rt ++ [r'])) cp') :: (LL + 1 + 1 + 1, oR) :: (LL + 1 + 1, oS) :: r0.obj :: ((rt ++ [r']).map RE.obj ++ [(54, tab54 c2)]), q ∈ (LL + 1 + 1 + 1 + 1 + 1, x1') :: (dT', oT1) :: (LL + 1 + 1 + 1 + 1, x2') :: (LL + 1, o5) :: (aA, oA) :: (RW, lstC (r0.ref :: List.map RE.ref (rt ++ [r'])) cp') :: (LL + 1 + 1 + 1, oR) :: (LL + 1 + 1, oS) :: r0.obj :: ((rt ++ [r']).map RE.obj ++ [(54, tab54 c2), (i5, itR (0 + ((k + 1 : Nat) : Int)) ((5 : Nat) - ((k + 1 : Nat) : Int)))])),
        fun p hp => hoff p (List.mem_append_left _ hp), b1, dT', oT1, kT', eT', x1', x2', rt ++ [r'], cp', u1', rfl, nd'.congr (by simp only [List.map_append, List.map_cons, List.map_nil, List.cons_append, List.append_assoc, List.nil_append]), hT', hkT', hl', dx1', dx2', rows_snoc rows hr', by rw [List.length_append, hrl]; rfl, sums_snoc hsum hrl hs'⟩
    case j0 =>
      rintro m1 n1 ⟨a1, dT, oT', kT, eT, x1, x2, rt, cp, u1, rfl, nd, hT, hkT, hlook, dx1, dx2, rows, hrl, hsum⟩ h1 tk1 F1 N1
      have ndB : DistL ((RW, lstC (r0.ref :: List.map RE.ref rt) cp) :: (LL + 1 + 1 + 1, oR) :: r0.obj :: (rt.map RE.obj ++ [(54, tab54 c2)])) := nd.sub (.cons _ (.cons _ (.cons _ (.cons _ (.cons _ (.cons₂ _ (.cons₂ _ (.cons _ (.cons₂ _ (List.Sublist.append_left (List.Sublist.cons₂ _ (List.Sublist.cons _ (List.Sublist.refl _))) _))))))))))
      (repeat' (first | (k_unfold; (try dsimp only)) | ((fail_if_success (with_reducible first | show wpAny _ _ (PySem.call (Value.ref _) _) _ _ _ | show wpAny _ _ (pyIter (Value.ref _)) _ _ _ | show wpAny _ _ (exec (Stmt.For _ _ _ _ _) _) _ _ _ | show LCg.CompSrc _ _ _ _ _ _ _ _ _ _ _ _ _ _ | show LCg.CompEnd _ _ _ _ _ _ _ _ _ _ _ _ _ _ | show wpAny _ _ (eval (Expr.ListComp _ _ _ _) _) _ _ _ | show wpAny _ _ (eval (Expr.DictComp _ _ _ _ _) _) _ _ _ | show wpAny _ _ (exec (Stmt.Assign _ (Expr.ListComp _ _ _ _) _) _) _ _ _ | show wpAny _ _ (exec (Stmt.Assign _ (Expr.DictComp _ _ _ _ _) _) _) _ _ _ | show _ ≤ _)); (first | walk1 | (dsimp only; walk1)) <;> (try dsimp only)) | (leave1; try dsimp only) | fail "no step"))
      refine' LCg.ListComp_U F1 ?q1 ?q2 ?q3 ?q4 ?q5 ?q6
      case q1 => exact rfl
      case q2 => decide
      case q3 => exact rfl
      case q4 => decide
      case q5 => exact rfl
      (repeat' (first | (k_unfold; (try dsimp only)) | ((fail_if_success (with_reducible first | show wpAny _ _ (PySem.call (Value.ref _) _) _ _ _ | show wpAny _ _ (pyIter (Value.ref _)) _ _ _ | show wpAny _ _ (exec (Stmt.For _ _ _ _ _) _) _ _ _ | show LCg.CompSrc _ _ _ _ _ _ _ _ _ _ _ _ _ _ | show LCg.CompEnd _ _ _ _ _ _ _ _ _ _ _ _ _ _ | show wpAny _ _ (eval (Expr.ListComp _ _ _ _) _) _ _ _ | show wpAny _ _ (eval (Expr.DictComp _ _ _ _ _) _) _ _ _ | show wpAny _ _ (exec (Stmt.Assign _ (Expr.ListComp _ _ _ _) _) _) _ _ _ | show wpAny _ _ (exec (Stmt.Assign _ (Expr.DictComp _ _ _ _ _) _) _) _ _ _ | show _ ≤ _)); (first | walk1 | (dsimp only; walk1)) <;> (try dsimp only)) | (leave1; try dsimp only) | fail "no step"))
      (rename IsRange _ _ _ _ _ _ _ _ => lR6); (rename Fr _ _ _ _ => lF6); (rename News _ _ _ _ => lN6)
      refine LCg.CompSrc.range (n := 5) (by rfl) lF6 (cb_drop (news := (RW, lstC (r0.ref :: List.map RE.ref rt) cp) :: (LL + 1 + 1 + 1, oR) :: r0.obj :: (rt.map RE.obj ++ [(54, tab54 c2)])) lN6 ?q7) lR6 (by decide) (by decide) (by decide) (fun g6 => ?_)
      case q7 => exact (subB [[(LL + 1 + 1 + 1 + 1 + 1, x1)], [(dT, oT')], [(LL + 1 + 1 + 1 + 1, x2)], [(LL + 1, o5)], [(aA, oA)], [(RW, lstC (r0.ref :: List.map RE.ref rt) cp)], [(LL + 1 + 1 + 1, oR)], [(LL + 1 + 1, oS)], [r0.obj], rt.map RE.obj, [(54, tab54 c2)]] 10 [5, 6, 8, 9] 10 [0, 1, 2, 3, 4, 5, 6, 7, 8, 9] rfl : ∀ q ∈ (RW, lstC (r0.ref :: List.map RE.ref rt) cp) :: (LL + 1 + 1 + 1, oR) :: r0.obj :: (rt.map RE.obj ++ [(54, tab54 c2)]), q ∈ (LL + 1 + 1 + 1 + 1 + 1, x1) :: (dT, oT') :: (LL + 1 + 1 + 1 + 1, x2) :: (LL + 1, o5) :: (aA, oA) :: (RW, lstC (r0.ref :: List.map RE.ref rt) cp) :: (LL + 1 + 1 + 1, oR) :: (LL + 1 + 1, oS) :: r0.obj :: (rt.map RE.obj ++ [(54, tab54 c2)]))
      refine comp_ind (n := 5) (fun i ys news => IntsAre ys ((cntL o s1).take i) ∧ news = (RW, lstC (r0.ref :: List.map RE.ref rt) cp) :: (LL + 1 + 1 + 1, oR) :: r0.obj :: (rt.map RE.obj ++ [(54, tab54 c2)])) ?ci0 ?ci1 _ _ _ _ (by decide) ⟨.nil, rfl⟩
      case ci1 =>
        rintro i ys news hi ⟨hys, rfl⟩ v I1 oI C oC DD m2 h1 tk1 E1 ⟨tj, rfl⟩ hCo hxj F2 N2 off1 ne1
        refine lcCnt (tl := [(54, tab54 c2), (I1, oI), (DD, LCg.lst ys)]) rfl hi BB XX TT hC hd hu F2 hCo hxj (cb_drop (news := (C, oC) :: (RW, lstC (r0.ref :: List.map RE.ref rt) cp) :: (LL + 1 + 1 + 1, oR) :: r0.obj :: (rt.map RE.obj ++ [(54, tab54 c2), (I1, oI), (DD, LCg.lst ys)])) N2 (subB [[(I1, oI)], [(C, oC)], [(DD, LCg.lst ys)], [(RW, lstC (r0.ref :: List.map RE.ref rt) cp)], [(LL + 1 + 1 + 1, oR)], [r0.obj], rt.map RE.obj, [(54, tab54 c2)]] 2 [1, 3, 4, 5, 6, 7, 0] 7 [0, 1, 2, 3, 4, 5, 6] rfl : ∀ q ∈ (C, oC) :: (RW, lstC (r0.ref :: List.map RE.ref rt) cp) :: (LL + 1 + 1 + 1, oR) :: r0.obj :: (rt.map RE.obj ++ [(54, tab54 c2), (I1, oI), (DD, LCg.lst ys)]), q ∈ (I1, oI) :: (C, oC) :: (DD, LCg.lst ys) :: (RW, lstC (r0.ref :: List.map RE.ref rt) cp) :: (LL + 1 + 1 + 1, oR) :: r0.obj :: (rt.map RE.obj ++ [(54, tab54 c2)])))
          ((nd3 (I := (I1, oI)) (C := (C, oC)) (D := (DD, LCg.lst ys)) ndB off1.mem ne1.1 ne1.2.1 ne1.2.2).congr (by simp only [List.map_append, List.map_cons, List.map_nil, List.cons_append, List.append_assoc, List.nil_append])) ?y1 rows hrl (fun q r h => (hsum q r h).1) ?_
        case y1 => assumption
        intro h' tk' t F' N'
        exact ⟨h', tk', (RW, lstC (r0.ref :: List.map RE.ref rt) cp) :: (LL + 1 + 1 + 1, oR) :: r0.obj :: (rt.map RE.obj ++ [(54, tab54 c2)]), rfl, F', cb_drop (news := (I1, oI) :: (C, oC) :: (DD, LCg.lst ys) :: (RW, lstC (r0.ref :: List.map RE.ref rt) cp) :: (LL + 1 + 1 + 1, oR) :: r0.obj :: (rt.map RE.obj ++ [(54, tab54 c2)])) N' (subB [[(C, oC)], [(RW, lstC (r0.ref :: List.map RE.ref rt) cp)], [(LL + 1 + 1 + 1, oR)], [r0.obj], rt.map RE.obj, [(54, tab54 c2)], [(I1, oI)], [(DD, LCg.lst ys)]] 5 [6, 0, 7, 1, 2, 3, 4] 7 [0, 1, 2, 3, 4, 5, 6] rfl : ∀ q ∈ (I1, oI) :: (C, oC) :: (DD, LCg.lst ys) :: (RW, lstC (r0.ref :: List.map RE.ref rt) cp) :: (LL + 1 + 1 + 1, oR) :: r0.obj :: (rt.map RE.obj ++ [(54, tab54 c2)]), q ∈ (C, oC) :: (RW, lstC (r0.ref :: List.map RE.ref rt) cp) :: (LL + 1 + 1 + 1, oR) :: r0.obj :: (rt.map RE.obj ++ [(54, tab54 c2), (I1, oI), (DD, LCg.lst ys)])), off1, trivial, by rw [cnt_snoc hi]; exact intsAre_snoc hys _ _, rfl⟩
      case ci0 =>
        rintro ys news ⟨hys, rfl⟩
        intro RR h3 tk3 F3 N3 o3
        (repeat' (first | (k_unfold; (try dsimp only)) | ((fail_if_success (with_reducible first | show wpAny _ _ (PySem.call (Value.ref _) _) _ _ _ | show wpAny _ _ (pyIter (Value.ref _)) _ _ _ | show wpAny _ _ (exec (Stmt.For _ _ _ _ _) _) _ _ _ | show LCg.CompSrc _ _ _ _ _ _ _ _ _ _ _ _ _ _ | show LCg.CompEnd _ _ _ _ _ _ _ _ _ _ _ _ _ _ | show wpAny _ _ (eval (Expr.ListComp _ _ _ _) _) _ _ _ | show wpAny _ _ (eval (Expr.DictComp _ _ _ _ _) _) _ _ _ | show wpAny _ _ (exec (Stmt.Assign _ (Expr.ListComp _ _ _ _) _) _) _ _ _ | show wpAny _ _ (exec (Stmt.Assign _ (Expr.DictComp _ _ _ _ _) _) _) _ _ _ | show _ ≤ _)); (first | walk1 | (dsimp only; walk1)) <;> (try dsimp only)) | (leave1; try dsimp only) | fail "no step"))
        (rename Fr h₀ L _ _ => kF1); (rename News h₀ L _ _ => kN1)
        have hne : ∀ q ∈ rest, @Ne Nat q.1 RR := fun q hq e => by
          have z := hRs q (List.mem_append_right _ hq)
          have e' : q.1 = RR := e
          rw [e', (N3 _ (List.mem_cons_self ..)).2.2] at z
          cases z
        have hR := rests (news := [(54, tab54 c2), (c2, oc2), (aA, oA)]) (nn := [(RR, LCg.lst ys), (54, tab54 c2)]) (cb_drop kN1 (List.forall_mem_cons.mpr ⟨List.mem_cons_self .., List.forall_mem_cons.mpr ⟨List.mem_cons_of_mem _ (List.mem_cons_of_mem _ (List.mem_cons_of_mem _ (List.mem_cons_of_mem _ (List.mem_append_right _ (List.mem_cons_self ..))))), List.forall_mem_nil _⟩⟩)) N hRs F3
        exact hret2 LL RR [(RR, LCg.lst ys), (54, tab54 c2)] _ _ (under_assoc hU) hne kF1 (cb_drop hR (fun q hq => by
          rcases List.mem_cons.mp hq with rfl | hq
          · exact List.mem_cons_self ..
          rcases List.mem_cons.mp hq with rfl | hq
          · exact List.mem_cons_of_mem _ (List.mem_cons_self ..)
          · exact List.mem_cons_of_mem _ (List.mem_cons_of_mem _ (List.mem_append_right (ds.map IE.obj) (show q ∈ rest from hq))))) ⟨ys, ys.length, hys, rfl⟩
end
end
theorem offLA1 : True := by
  w_top off
  exact True.intro
section
open PySem PySem.W PySem.Spec PySem.Calls PyProof.Rows
section
variable {w : World} {p : Program} {loose : List PySem.Str} {mean : ExcName → Option Value} {mg mb : PySem.Str → Option Value}
noncomputable abbrev xyzT : PySem.Str := PySem.Str.ofString "xyz"
theorem tupAt {prog : Program} {A : Around} {E : Value → Shared → Prop} {s : Shared} {value slice : PySem.Expr} {t : Addr} {l : List Value} {k : Int} {u : Tok} {j : Nat} {x : Value} {Q : Value → Shared → Prop} (hg : s.heap.get? t = some (tupO l)) (hlo : -(2 ^ 63) ≤ k) (hhi : k < 2 ^ 63) (hj : seqIndex? k l.length = some j) (hx : l[j]? = some x) (h : Q x s)
    (hs : subscripted slice false (.ref t) (.int k u) = operate [.ref t, .int k u] (getItem (.ref t) (.int k u))) : wpAny (model prog w) A (subscriptTail value slice (.ref t) (.int k u)) Q E s :=
  have ht : IsTup s.heap t l.toArray := ⟨_, hg, rfl, _, rfl⟩
  tail_any ht.typeIs slot_tuple_getitem.lookup (getItem_tuple ht hlo hhi (by simpa using hj) (by simpa using hx) h) hs
set_option maxHeartbeats 4000000 in
theorem laHead {stm rest : List Stmt} {scope : Scope} (hb : (stm, scope) = ((forBody 5 (topFn 24).1).take 1, (topFn 24).2)) {i : Nat} (hi : i < 8)
    {dp un : Nat} {gd : Option (List Code)} {cn : PySem.Str} {cs : Scope} {L fa LL : Addr} {ccd : Value} {cl : List (PySem.Str × Addr)} {outer : List Env} {base gg : Heap} {m : PySem.Str → Option Value} {s : Shared} {E : Value → Shared → Prop} {Q : Flow → Shared → Prop}
    {ps : List PE} {P : Addr} {led : Led} {ti tS : Tok} {k0 : Nat}
    (BB : Below (ktrTop dp un gd cn cs L fa ccd cl outer) base (envX cn cs L fa ccd cl :: outer) gg) (XX : (Mine.hd.heap_1 w.params).In gg) (TT : Top p loose mean mg mb gg) (hC : Codes base) (hd : dp + 150 < recursionLimit) (hu : un + 8 * 150 < cLine)
    (hp4 : ps.length = 4) (hpr : ∀ e ∈ ps, 0 ≤ e.n ∧ e.n < 3 ∧ 0 ≤ e.f ∧ e.f < 3) (hRs : Rests gg (ps.map PE.obj))
    (F : Fr gg LL s.heap fun y => if y = "i" then some (.int (0 + (i : Int)) ti) else if y = "steps" then some (.str stepsT tS) else if y = "pairs" then some (.ref P) else m y)
    (N : News gg LL s.heap led) (hP : (P, lstC (ps.map PE.ref) k0) ∈ led) {pe : PE} (hpe : ps[i / 2]? = some pe)
    (ret : ∀ h' tk t, Fr gg LL h' (fun y => if y = "forth" then some (.str (PySem.Txt.item xyzT pe.n ++ PySem.Txt.item xyzT pe.f) t) else if y = "i" then some (.int (0 + (i : Int)) ti) else if y = "steps" then some (.str stepsT tS) else if y = "pairs" then some (.ref P) else m y) → News gg LL h' led →
      wpAny (model PySem.Challenge.rw_wy0040_01.row.toRowW.prog w) ((ktrTop dp un gd cn cs L fa ccd cl outer).deeper (envOfC "_law_after" scope LL 266 (.ref 265))) (execs rest (envOfC "_law_after" scope LL 266 (.ref 265))) Q E { s with heap := h', toks := tk }) :
    wpAny (model PySem.Challenge.rw_wy0040_01.row.toRowW.prog w) ((ktrTop dp un gd cn cs L fa ccd cl outer).deeper (envOfC "_law_after" scope LL 266 (.ref 265))) (execs (stm ++ rest) (envOfC "_law_after" scope LL 266 (.ref 265))) Q E s := by
  conv at hb => {rhs; arg 1; whnf}
  conv at hb => {rhs; arg 2; whnf}
  simp only [Prod.mk.injEq] at hb
  obtain ⟨rfl, rfl⟩ := hb
  revert XX
  k_fill
  intro XX
  simp only [List.take_succ_cons, List.take_zero, List.cons_append, List.nil_append]
  try dsimp only
  have hlt : i / 2 < ps.length := by (first | lia | omega)
  have hmem := List.mem_of_getElem? hpe
  obtain ⟨n0, n3, f0, f3⟩ := hpr pe hmem
  have hj : ((0 : Int) + (i : Int)).fdiv 2 = ((i / 2 : Nat) : Int) := by rw [Int.fdiv_eq_ediv_of_nonneg _ (by decide)]; (first | lia | omega)
  have hx : (ps.map PE.ref)[(((0 : Int) + (i : Int)).fdiv 2).toNat]? = some pe.ref := by rw [hj, Int.toNat_natCast, List.getElem?_map, hpe]; rfl
  have hg := hRs _ (List.mem_map_of_mem hmem)
  (repeat' (first | (k_unfold; (try dsimp only)) | ((fail_if_success (with_reducible first | show wpAny _ _ (PySem.call (Value.ref _) _) _ _ _ | show wpAny _ _ (pyIter (Value.ref _)) _ _ _ | show wpAny _ _ (exec (Stmt.For _ _ _ _ _) _) _ _ _ | show wpAny _ _ (subscriptTail _ _ _ _) _ _ _ | show DEnd _ _ _ _ _ _ _ _ _ _ _ _ _ _ | show wpAny _ _ (setItem _ _ _) _ _ _ | show wpAny _ _ (getItem _ _) _ _ _ | show LCg.CompSrc _ _ _ _ _ _ _ _ _ _ _ _ _ _ | show LCg.CompEnd _ _ _ _ _ _ _ _ _ _ _ _ _ _ | show wpAny _ _ (eval (Expr.ListComp _ _ _ _) _) _ _ _ | show wpAny _ _ (eval (Expr.DictComp _ _ _ _ _) _) _ _ _ | show wpAny _ _ (exec (Stmt.Assign _ (Expr.ListComp _ _ _ _) _) _) _ _ _ | show wpAny _ _ (exec (Stmt.Assign _ (Expr.DictComp _ _ _ _ _) _) _) _ _ _ | show _ ≤ _)); (first | walk1 | (dsimp only; walk1)) <;> (try dsimp only)) | (leave1; try dsimp only) | fail "no step"))
  refine item_litK (isL N hP) (by (first | lia | omega)) (by (first | lia | omega)) hx ?_ (by with_unfolding_all rfl)
  (repeat' (first | (k_unfold; (try dsimp only)) | ((fail_if_success (with_reducible first | show wpAny _ _ (PySem.call (Value.ref _) _) _ _ _ | show wpAny _ _ (pyIter (Value.ref _)) _ _ _ | show wpAny _ _ (exec (Stmt.For _ _ _ _ _) _) _ _ _ | show wpAny _ _ (subscriptTail _ _ _ _) _ _ _ | show DEnd _ _ _ _ _ _ _ _ _ _ _ _ _ _ | show wpAny _ _ (setItem _ _ _) _ _ _ | show wpAny _ _ (getItem _ _) _ _ _ | show LCg.CompSrc _ _ _ _ _ _ _ _ _ _ _ _ _ _ | show LCg.CompEnd _ _ _ _ _ _ _ _ _ _ _ _ _ _ | show wpAny _ _ (eval (Expr.ListComp _ _ _ _) _) _ _ _ | show wpAny _ _ (eval (Expr.DictComp _ _ _ _ _) _) _ _ _ | show wpAny _ _ (exec (Stmt.Assign _ (Expr.ListComp _ _ _ _) _) _) _ _ _ | show wpAny _ _ (exec (Stmt.Assign _ (Expr.DictComp _ _ _ _ _) _) _) _ _ _ | show _ ≤ _)); (first | walk1 | (dsimp only; walk1)) <;> (try dsimp only)) | (leave1; try dsimp only) | fail "no step"))
  (rename Fr _ _ _ _ => lF1)
  refine tupAt (j := 0) (lF1.keep _ _ hg) (by decide) (by decide) (by rfl) (by rfl) ?_ (by with_unfolding_all rfl)
  (repeat' (first | (k_unfold; (try dsimp only)) | ((fail_if_success (with_reducible first | show wpAny _ _ (PySem.call (Value.ref _) _) _ _ _ | show wpAny _ _ (pyIter (Value.ref _)) _ _ _ | show wpAny _ _ (exec (Stmt.For _ _ _ _ _) _) _ _ _ | show wpAny _ _ (subscriptTail _ _ _ _) _ _ _ | show DEnd _ _ _ _ _ _ _ _ _ _ _ _ _ _ | show wpAny _ _ (setItem _ _ _) _ _ _ | show wpAny _ _ (getItem _ _) _ _ _ | show LCg.CompSrc _ _ _ _ _ _ _ _ _ _ _ _ _ _ | show LCg.CompEnd _ _ _ _ _ _ _ _ _ _ _ _ _ _ | show wpAny _ _ (eval (Expr.ListComp _ _ _ _) _) _ _ _ | show wpAny _ _ (eval (Expr.DictComp _ _ _ _ _) _) _ _ _ | show wpAny _ _ (exec (Stmt.Assign _ (Expr.ListComp _ _ _ _) _) _) _ _ _ | show wpAny _ _ (exec (Stmt.Assign _ (Expr.DictComp _ _ _ _ _) _) _) _ _ _ | show _ ≤ _)); (first | walk1 | (dsimp only; walk1)) <;> (try dsimp only)) | (leave1; try dsimp only) | fail "no step"))
  refine KXi.item (n := 3) (by rfl) (by (first | lia | omega)) (by (first | lia | omega)) (by decide) ?_
  intro lF1e
  (repeat' (first | (k_unfold; (try dsimp only)) | ((fail_if_success (with_reducible first | show wpAny _ _ (PySem.call (Value.ref _) _) _ _ _ | show wpAny _ _ (pyIter (Value.ref _)) _ _ _ | show wpAny _ _ (exec (Stmt.For _ _ _ _ _) _) _ _ _ | show wpAny _ _ (subscriptTail _ _ _ _) _ _ _ | show DEnd _ _ _ _ _ _ _ _ _ _ _ _ _ _ | show wpAny _ _ (setItem _ _ _) _ _ _ | show wpAny _ _ (getItem _ _) _ _ _ | show LCg.CompSrc _ _ _ _ _ _ _ _ _ _ _ _ _ _ | show LCg.CompEnd _ _ _ _ _ _ _ _ _ _ _ _ _ _ | show wpAny _ _ (eval (Expr.ListComp _ _ _ _) _) _ _ _ | show wpAny _ _ (eval (Expr.DictComp _ _ _ _ _) _) _ _ _ | show wpAny _ _ (exec (Stmt.Assign _ (Expr.ListComp _ _ _ _) _) _) _ _ _ | show wpAny _ _ (exec (Stmt.Assign _ (Expr.DictComp _ _ _ _ _) _) _) _ _ _ | show _ ≤ _)); (first | walk1 | (dsimp only; walk1)) <;> (try dsimp only)) | (leave1; try dsimp only) | fail "no step"))
  (rename News _ _ _ _ => lN2)
  refine item_litK (isL lN2 hP) (by (first | lia | omega)) (by (first | lia | omega)) hx ?_ (by with_unfolding_all rfl)
  (repeat' (first | (k_unfold; (try dsimp only)) | ((fail_if_success (with_reducible first | show wpAny _ _ (PySem.call (Value.ref _) _) _ _ _ | show wpAny _ _ (pyIter (Value.ref _)) _ _ _ | show wpAny _ _ (exec (Stmt.For _ _ _ _ _) _) _ _ _ | show wpAny _ _ (subscriptTail _ _ _ _) _ _ _ | show DEnd _ _ _ _ _ _ _ _ _ _ _ _ _ _ | show wpAny _ _ (setItem _ _ _) _ _ _ | show wpAny _ _ (getItem _ _) _ _ _ | show LCg.CompSrc _ _ _ _ _ _ _ _ _ _ _ _ _ _ | show LCg.CompEnd _ _ _ _ _ _ _ _ _ _ _ _ _ _ | show wpAny _ _ (eval (Expr.ListComp _ _ _ _) _) _ _ _ | show wpAny _ _ (eval (Expr.DictComp _ _ _ _ _) _) _ _ _ | show wpAny _ _ (exec (Stmt.Assign _ (Expr.ListComp _ _ _ _) _) _) _ _ _ | show wpAny _ _ (exec (Stmt.Assign _ (Expr.DictComp _ _ _ _ _) _) _) _ _ _ | show _ ≤ _)); (first | walk1 | (dsimp only; walk1)) <;> (try dsimp only)) | (leave1; try dsimp only) | fail "no step"))
  (rename Fr _ _ _ _ => lF2)
  refine tupAt (j := 1) (lF2.keep _ _ hg) (by decide) (by decide) (by rfl) (by rfl) ?_ (by with_unfolding_all rfl)
  (repeat' (first | (k_unfold; (try dsimp only)) | ((fail_if_success (with_reducible first | show wpAny _ _ (PySem.call (Value.ref _) _) _ _ _ | show wpAny _ _ (pyIter (Value.ref _)) _ _ _ | show wpAny _ _ (exec (Stmt.For _ _ _ _ _) _) _ _ _ | show wpAny _ _ (subscriptTail _ _ _ _) _ _ _ | show DEnd _ _ _ _ _ _ _ _ _ _ _ _ _ _ | show wpAny _ _ (setItem _ _ _) _ _ _ | show wpAny _ _ (getItem _ _) _ _ _ | show LCg.CompSrc _ _ _ _ _ _ _ _ _ _ _ _ _ _ | show LCg.CompEnd _ _ _ _ _ _ _ _ _ _ _ _ _ _ | show wpAny _ _ (eval (Expr.ListComp _ _ _ _) _) _ _ _ | show wpAny _ _ (eval (Expr.DictComp _ _ _ _ _) _) _ _ _ | show wpAny _ _ (exec (Stmt.Assign _ (Expr.ListComp _ _ _ _) _) _) _ _ _ | show wpAny _ _ (exec (Stmt.Assign _ (Expr.DictComp _ _ _ _ _) _) _) _ _ _ | show _ ≤ _)); (first | walk1 | (dsimp only; walk1)) <;> (try dsimp only)) | (leave1; try dsimp only) | fail "no step"))
  refine KXi.item (n := 3) (by rfl) (by (first | lia | omega)) (by (first | lia | omega)) (by decide) ?_
  intro lF2e
  (repeat' (first | (k_unfold; (try dsimp only)) | ((fail_if_success (with_reducible first | show wpAny _ _ (PySem.call (Value.ref _) _) _ _ _ | show wpAny _ _ (pyIter (Value.ref _)) _ _ _ | show wpAny _ _ (exec (Stmt.For _ _ _ _ _) _) _ _ _ | show wpAny _ _ (subscriptTail _ _ _ _) _ _ _ | show DEnd _ _ _ _ _ _ _ _ _ _ _ _ _ _ | show wpAny _ _ (setItem _ _ _) _ _ _ | show wpAny _ _ (getItem _ _) _ _ _ | show LCg.CompSrc _ _ _ _ _ _ _ _ _ _ _ _ _ _ | show LCg.CompEnd _ _ _ _ _ _ _ _ _ _ _ _ _ _ | show wpAny _ _ (eval (Expr.ListComp _ _ _ _) _) _ _ _ | show wpAny _ _ (eval (Expr.DictComp _ _ _ _ _) _) _ _ _ | show wpAny _ _ (exec (Stmt.Assign _ (Expr.ListComp _ _ _ _) _) _) _ _ _ | show wpAny _ _ (exec (Stmt.Assign _ (Expr.DictComp _ _ _ _ _) _) _) _ _ _ | show _ ≤ _)); (first | walk1 | (dsimp only; walk1)) <;> (try dsimp only)) | (leave1; try dsimp only) | fail "no step"))
  (rename Fr _ _ _ _ => lF3); (rename News _ _ _ _ => lN3)
  exact ret _ _ _ lF3 lN3
noncomputable def twnT (i : Nat) (fw : PySem.Str) : PySem.Str := if i % 2 = 0 then fw else PySem.Txt.sliceBy fw none none (-1, 0)
noncomputable def namT (i : Nat) (fw : PySem.Str) : PySem.Str := if i % 2 = 0 then PySem.Str.ofString "t" ++ PySem.Txt.item (twnT i fw) 0 else PySem.Str.ofString "T" ++ PySem.Txt.upper (PySem.Txt.item (twnT i fw) 0)
noncomputable def roaT (i : Nat) : PySem.Str := PySem.Str.ofString "r" ++ key i
set_option maxHeartbeats 4000000 in
theorem laHead2 {stm rest : List Stmt} {scope : Scope} (hb : (stm, scope) = (((forBody 5 (topFn 24).1).drop 1).take 3, (topFn 24).2)) {i : Nat} (hi : i < 8)
    {dp un : Nat} {gd : Option (List Code)} {cn : PySem.Str} {cs : Scope} {L fa LL : Addr} {ccd : Value} {cl : List (PySem.Str × Addr)} {outer : List Env} {base gg : Heap} {m : PySem.Str → Option Value} {s : Shared} {E : Value → Shared → Prop} {Q : Flow → Shared → Prop}
    {led : Led} {ti tS tf : Tok} {fw : PySem.Str}
    (BB : Below (ktrTop dp un gd cn cs L fa ccd cl outer) base (envX cn cs L fa ccd cl :: outer) gg) (XX : (Mine.hd.heap_1 w.params).In gg) (TT : Top p loose mean mg mb gg) (hC : Codes base) (hd : dp + 150 < recursionLimit) (hu : un + 8 * 150 < cLine)
    (hfw : fw.length = 2) (htw : (PySem.Txt.sliceBy fw none none (-1, 0)).length = 2)
    (F : Fr gg LL s.heap fun y => if y = "forth" then some (.str fw tf) else if y = "i" then some (.int (0 + (i : Int)) ti) else if y = "steps" then some (.str stepsT tS) else m y)
    (N : News gg LL s.heap led)
    (ret : ∀ h' tk t1 t2 t3, Fr gg LL h' (fun y => if y = "road" then some (.str (roaT i) t3) else if y = "name" then some (.str (namT i fw) t2) else if y = "towns" then some (.str (twnT i fw) t1) else if y = "forth" then some (.str fw tf) else if y = "i" then some (.int (0 + (i : Int)) ti) else if y = "steps" then some (.str stepsT tS) else m y) → News gg LL h' led →
      wpAny (model PySem.Challenge.rw_wy0040_01.row.toRowW.prog w) ((ktrTop dp un gd cn cs L fa ccd cl outer).deeper (envOfC "_law_after" scope LL 266 (.ref 265))) (execs rest (envOfC "_law_after" scope LL 266 (.ref 265))) Q E { s with heap := h', toks := tk }) :
    wpAny (model PySem.Challenge.rw_wy0040_01.row.toRowW.prog w) ((ktrTop dp un gd cn cs L fa ccd cl outer).deeper (envOfC "_law_after" scope LL 266 (.ref 265))) (execs (stm ++ rest) (envOfC "_law_after" scope LL 266 (.ref 265))) Q E s := by
  conv at hb => {rhs; arg 1; whnf}
  conv at hb => {rhs; arg 2; whnf}
  simp only [Prod.mk.injEq] at hb
  obtain ⟨rfl, rfl⟩ := hb
  revert XX
  k_fill
  intro XX
  simp only [List.take_succ_cons, List.take_zero, List.cons_append, List.nil_append]
  try dsimp only
  have eu : ∀ u : Tok, PySem.Txt.sliceBy fw none none (-1, u) = PySem.Txt.sliceBy fw none none (-1, 0) := fun _ => rfl
  have e1 : roaT i = PySem.Str.ofString "r" ++ PySem.Txt.item stepsT (0 + (i : Int)) := by rw [Int.zero_add]; rfl
  have hpm : ((0 : Int) + (i : Int)).fmod 2 = ((i % 2 : Nat) : Int) := by rw [Int.fmod_eq_emod_of_nonneg _ (by decide)]; (first | lia | omega)
  (repeat' (first | (k_unfold; (try dsimp only)) | ((fail_if_success (with_reducible first | show wpAny _ _ (PySem.call (Value.ref _) _) _ _ _ | show wpAny _ _ (pyIter (Value.ref _)) _ _ _ | show wpAny _ _ (exec (Stmt.For _ _ _ _ _) _) _ _ _ | show wpAny _ _ (subscriptTail _ _ _ _) _ _ _ | show DEnd _ _ _ _ _ _ _ _ _ _ _ _ _ _ | show wpAny _ _ (setItem _ _ _) _ _ _ | show wpAny _ _ (getItem _ _) _ _ _ | show LCg.CompSrc _ _ _ _ _ _ _ _ _ _ _ _ _ _ | show LCg.CompEnd _ _ _ _ _ _ _ _ _ _ _ _ _ _ | show wpAny _ _ (eval (Expr.ListComp _ _ _ _) _) _ _ _ | show wpAny _ _ (eval (Expr.DictComp _ _ _ _ _) _) _ _ _ | show wpAny _ _ (exec (Stmt.Assign _ (Expr.ListComp _ _ _ _) _) _) _ _ _ | show wpAny _ _ (exec (Stmt.Assign _ (Expr.DictComp _ _ _ _ _) _) _) _ _ _ | show _ ≤ _)); (first | walk1 | (dsimp only; walk1)) <;> (try dsimp only)) | (leave1; try dsimp only) | fail "no step"))
  all_goals try contradiction
  · rename (0 + (i : Int)).fmod 2 = 0 => hev
    refine KXi.item (n := 2) hfw (by (first | lia | omega)) (by (first | lia | omega)) (by decide) ?_
    intro le
    (repeat' (first | (k_unfold; (try dsimp only)) | ((fail_if_success (with_reducible first | show wpAny _ _ (PySem.call (Value.ref _) _) _ _ _ | show wpAny _ _ (pyIter (Value.ref _)) _ _ _ | show wpAny _ _ (exec (Stmt.For _ _ _ _ _) _) _ _ _ | show wpAny _ _ (subscriptTail _ _ _ _) _ _ _ | show DEnd _ _ _ _ _ _ _ _ _ _ _ _ _ _ | show wpAny _ _ (setItem _ _ _) _ _ _ | show wpAny _ _ (getItem _ _) _ _ _ | show LCg.CompSrc _ _ _ _ _ _ _ _ _ _ _ _ _ _ | show LCg.CompEnd _ _ _ _ _ _ _ _ _ _ _ _ _ _ | show wpAny _ _ (eval (Expr.ListComp _ _ _ _) _) _ _ _ | show wpAny _ _ (eval (Expr.DictComp _ _ _ _ _) _) _ _ _ | show wpAny _ _ (exec (Stmt.Assign _ (Expr.ListComp _ _ _ _) _) _) _ _ _ | show wpAny _ _ (exec (Stmt.Assign _ (Expr.DictComp _ _ _ _ _) _) _) _ _ _ | show _ ≤ _)); (first | walk1 | (dsimp only; walk1)) <;> (try dsimp only)) | (leave1; try dsimp only) | fail "no step"))
    refine KXi.item (n := 8) (by rfl) (by (first | lia | omega)) (by (first | lia | omega)) (by decide) ?_
    intro _
    (repeat' (first | (k_unfold; (try dsimp only)) | ((fail_if_success (with_reducible first | show wpAny _ _ (PySem.call (Value.ref _) _) _ _ _ | show wpAny _ _ (pyIter (Value.ref _)) _ _ _ | show wpAny _ _ (exec (Stmt.For _ _ _ _ _) _) _ _ _ | show wpAny _ _ (subscriptTail _ _ _ _) _ _ _ | show DEnd _ _ _ _ _ _ _ _ _ _ _ _ _ _ | show wpAny _ _ (setItem _ _ _) _ _ _ | show wpAny _ _ (getItem _ _) _ _ _ | show LCg.CompSrc _ _ _ _ _ _ _ _ _ _ _ _ _ _ | show LCg.CompEnd _ _ _ _ _ _ _ _ _ _ _ _ _ _ | show wpAny _ _ (eval (Expr.ListComp _ _ _ _) _) _ _ _ | show wpAny _ _ (eval (Expr.DictComp _ _ _ _ _) _) _ _ _ | show wpAny _ _ (exec (Stmt.Assign _ (Expr.ListComp _ _ _ _) _) _) _ _ _ | show wpAny _ _ (exec (Stmt.Assign _ (Expr.DictComp _ _ _ _ _) _) _) _ _ _ | show _ ≤ _)); (first | walk1 | (dsimp only; walk1)) <;> (try dsimp only)) | (leave1; try dsimp only) | fail "no step"))
    (rename Fr _ _ _ _ => lF1); (rename News _ _ _ _ => lN1)
    rw [hpm] at hev
    have hi0 : i % 2 = 0 := by (first | lia | omega)
    have e2 : namT i fw = PySem.Str.ofString "t" ++ PySem.Txt.item fw 0 := by rw [namT, twnT, if_pos hi0, if_pos hi0]
    rw [← e1, ← e2] at lF1
    have e3 : twnT i fw = fw := by rw [twnT, if_pos hi0]
    refine' ret _ _ ?u1 ?u2 ?u3 ?u4 lN1
    case u4 =>
      rw [e3]
      exact lF1
  · rename (0 + (i : Int)).fmod 2 ≠ 0 => hev
    (rename Fr _ _ _ _ => lF1); (rename News _ _ _ _ => lN1)

    refine slice_strK_nn (s := ⟨s.heap, s.gens, s.drawn, s.toks + 1 + 1 + 1 + 1 + 1, s.os⟩) (hsz := ?hsz) lF1 lN1 ?hk ?_
    case hsz => rw [hfw]; decide
    case hk => decide
    intro h1 t1 c1 F1 N1
    rw [eu]
    (repeat' (first | (k_unfold; (try dsimp only)) | ((fail_if_success (with_reducible first | show wpAny _ _ (PySem.call (Value.ref _) _) _ _ _ | show wpAny _ _ (pyIter (Value.ref _)) _ _ _ | show wpAny _ _ (exec (Stmt.For _ _ _ _ _) _) _ _ _ | show wpAny _ _ (subscriptTail _ _ _ _) _ _ _ | show DEnd _ _ _ _ _ _ _ _ _ _ _ _ _ _ | show wpAny _ _ (setItem _ _ _) _ _ _ | show wpAny _ _ (getItem _ _) _ _ _ | show LCg.CompSrc _ _ _ _ _ _ _ _ _ _ _ _ _ _ | show LCg.CompEnd _ _ _ _ _ _ _ _ _ _ _ _ _ _ | show wpAny _ _ (eval (Expr.ListComp _ _ _ _) _) _ _ _ | show wpAny _ _ (eval (Expr.DictComp _ _ _ _ _) _) _ _ _ | show wpAny _ _ (exec (Stmt.Assign _ (Expr.ListComp _ _ _ _) _) _) _ _ _ | show wpAny _ _ (exec (Stmt.Assign _ (Expr.DictComp _ _ _ _ _) _) _) _ _ _ | show _ ≤ _)); (first | walk1 | (dsimp only; walk1)) <;> (try dsimp only)) | (leave1; try dsimp only) | fail "no step"))
    all_goals try contradiction
    refine KXi.item (n := 2) htw (by (first | lia | omega)) (by (first | lia | omega)) (by decide) ?_
    intro le
    (repeat' (first | (k_unfold; (try dsimp only)) | ((fail_if_success (with_reducible first | show wpAny _ _ (PySem.call (Value.ref _) _) _ _ _ | show wpAny _ _ (pyIter (Value.ref _)) _ _ _ | show wpAny _ _ (exec (Stmt.For _ _ _ _ _) _) _ _ _ | show wpAny _ _ (subscriptTail _ _ _ _) _ _ _ | show DEnd _ _ _ _ _ _ _ _ _ _ _ _ _ _ | show wpAny _ _ (setItem _ _ _) _ _ _ | show wpAny _ _ (getItem _ _) _ _ _ | show LCg.CompSrc _ _ _ _ _ _ _ _ _ _ _ _ _ _ | show LCg.CompEnd _ _ _ _ _ _ _ _ _ _ _ _ _ _ | show wpAny _ _ (eval (Expr.ListComp _ _ _ _) _) _ _ _ | show wpAny _ _ (eval (Expr.DictComp _ _ _ _ _) _) _ _ _ | show wpAny _ _ (exec (Stmt.Assign _ (Expr.ListComp _ _ _ _) _) _) _ _ _ | show wpAny _ _ (exec (Stmt.Assign _ (Expr.DictComp _ _ _ _ _) _) _) _ _ _ | show _ ≤ _)); (first | walk1 | (dsimp only; walk1)) <;> (try dsimp only)) | (leave1; try dsimp only) | fail "no step"))
    refine KXi.item (n := 8) (by rfl) (by (first | lia | omega)) (by (first | lia | omega)) (by decide) ?_
    intro _
    (repeat' (first | (k_unfold; (try dsimp only)) | ((fail_if_success (with_reducible first | show wpAny _ _ (PySem.call (Value.ref _) _) _ _ _ | show wpAny _ _ (pyIter (Value.ref _)) _ _ _ | show wpAny _ _ (exec (Stmt.For _ _ _ _ _) _) _ _ _ | show wpAny _ _ (subscriptTail _ _ _ _) _ _ _ | show DEnd _ _ _ _ _ _ _ _ _ _ _ _ _ _ | show wpAny _ _ (setItem _ _ _) _ _ _ | show wpAny _ _ (getItem _ _) _ _ _ | show LCg.CompSrc _ _ _ _ _ _ _ _ _ _ _ _ _ _ | show LCg.CompEnd _ _ _ _ _ _ _ _ _ _ _ _ _ _ | show wpAny _ _ (eval (Expr.ListComp _ _ _ _) _) _ _ _ | show wpAny _ _ (eval (Expr.DictComp _ _ _ _ _) _) _ _ _ | show wpAny _ _ (exec (Stmt.Assign _ (Expr.ListComp _ _ _ _) _) _) _ _ _ | show wpAny _ _ (exec (Stmt.Assign _ (Expr.DictComp _ _ _ _ _) _) _) _ _ _ | show _ ≤ _)); (first | walk1 | (dsimp only; walk1)) <;> (try dsimp only)) | (leave1; try dsimp only) | fail "no step"))
    (rename Fr _ _ _ _ => lF2); (rename News _ _ _ _ => lN2)
    rw [hpm] at hev
    have hi0 : ¬ i % 2 = 0 := by (first | lia | omega)
    have e2 : namT i fw = PySem.Str.ofString "T" ++ PySem.Txt.upper (PySem.Txt.item (PySem.Txt.sliceBy fw none none (-1, 0)) 0) := by rw [namT, twnT, if_neg hi0, if_neg hi0]
    rw [← e1, ← e2] at lF2
    have e3 : twnT i fw = PySem.Txt.sliceBy fw none none (-1, 0) := by rw [twnT, if_neg hi0]
    refine' ret _ _ ?v1 ?v2 ?v3 ?v4 lN2
    case v4 =>
      rw [e3]
      exact lF2
end
end
theorem offLU : True := by
  w_top off
  exact True.intro
section
open PySem PySem.W PySem.Spec PySem.Calls PyProof.Rows
section
variable {w : World} {p : Program} {loose : List PySem.Str} {mean : ExcName → Option Value} {mg mb : PySem.Str → Option Value}
theorem Ok.use3 {f : Addr} {vs : List Value} {need : Nat} {news l : Led} {Post : Nat → Led → Value → Prop} {dp un : Nat} {gd : Option (List Code)} {cn : PySem.Str} {cs : Scope} {a : Addr} {ccd : Value} {cl : List (PySem.Str × Addr)} {outer : List Env} {A₀ : Around} {base h₀ : Heap} {L : Addr} {m : PySem.Str → Option Value} {s : Shared}
    {Q E : Value → Shared → Prop} (B : Below A₀ base outer h₀) (F : Fr h₀ L s.heap m) (X : (hd.heap_1 w.params).In h₀) (N : News h₀ L s.heap l) (T : Top p loose mean mg mb h₀) (hk : cs.kind = .function) (hC : Codes base)
    (C : Ok w p loose mean mg mb f vs need news Post) (sub : ∀ q ∈ news, q ∈ l) (hd : dp + need < recursionLimit) (hu : un + 8 * need < cLine)
    (ret : ∀ b r news' h' tk', (∀ q ∈ l, @LT.lt Nat _ q.1 b) → Fr h₀ L h' m → News h₀ L h' news' → (∀ q ∈ l, (∀ p ∈ news, @Ne Nat p.1 q.1) → News h₀ L h' [q]) → Post b news' r → Q r { s with heap := h', toks := tk' }) :
    wpAny (model PySem.Challenge.rw_wy0040_01.row.toRowW.prog w) (ktrTop dp un gd cn cs L a ccd cl outer) (call (.ref f) vs) Q E s := by
  classical
  have hmem : ∀ q, q ∈ l.filter (fun q => decide (∀ p ∈ news, @Ne Nat p.1 q.1)) ↔ q ∈ l ∧ ∀ p ∈ news, @Ne Nat p.1 q.1 := fun q => by
    rw [List.mem_filter, decide_eq_true_iff]
  refine Ok.use2 (l.filter fun q => decide (∀ p ∈ news, @Ne Nat p.1 q.1)) B F X N T hk hC C (fun q hq => ?_) (fun p hp q hq => ((hmem q).mp hq).2 p hp) hd hu
    (fun b r news' h' tk' U F' N' hp => ret b r news' h' tk' (fun q hq => ?_) F' (fun q hq => N' q (List.mem_append_left _ hq)) (fun q hq hn x hx => ?_) hp)
  · rcases List.mem_append.mp hq with hq | hq
    · exact sub q hq
    · exact ((hmem q).mp hq).1
  · by_cases hn : ∀ p ∈ news, @Ne Nat p.1 q.1
    · exact U q (List.mem_append_right _ ((hmem q).mpr ⟨hq, hn⟩))
    · obtain ⟨p, hp⟩ := Classical.not_forall.mp hn
      obtain ⟨hp, e⟩ := Classical.not_imp.mp hp
      have e' : p.1 = q.1 := Classical.not_not.mp e
      exact e' ▸ U p (List.mem_append_left _ hp)
  · rw [List.mem_singleton.mp hx]
    exact N' q (List.mem_append_right _ ((hmem q).mpr ⟨hq, hn⟩))
theorem news_ro {h₀ h h' : Heap} {L : Addr} {l news ex : Led} (N : News h₀ L h l) (sub : ∀ q ∈ news, q ∈ l) (N' : News h₀ L h' (ex ++ news)) (K : ∀ q ∈ l, (∀ p ∈ news, @Ne Nat p.1 q.1) → News h₀ L h' [q]) : News h₀ L h' (ex ++ l) := fun q hq => by
  rcases List.mem_append.mp hq with hq | hq
  · exact N' q (List.mem_append_left _ hq)
  by_cases hn : ∀ p ∈ news, @Ne Nat p.1 q.1
  · exact K q hq hn q (List.mem_cons_self ..)
  · obtain ⟨p, hp⟩ := Classical.not_forall.mp hn
    obtain ⟨hp, e⟩ := Classical.not_imp.mp hp
    have e' : p.1 = q.1 := Classical.not_not.mp e
    have h1 := (N p (sub p hp)).1
    rw [e', (N q hq).1] at h1
    have e2 : q = p := Prod.ext e'.symm (Option.some.inj h1)
    exact N' q (List.mem_append_right _ (e2 ▸ hp))
theorem news_ch {h₀ h h' : Heap} {L : Addr} {l news news' ex : Led} {c c' : Addr × Obj} (N : News h₀ L h (c :: l)) (off : ∀ q ∈ l, @Ne Nat q.1 c.1) (sub : ∀ q ∈ news, q = c ∨ q ∈ l ∧ q ∈ news') (mc : c ∈ news) (N' : News h₀ L h' news') (ec : c'.1 = c.1) (m' : ∀ q ∈ ex ++ [c'], q ∈ news')
    (K : ∀ q ∈ c :: l, (∀ p ∈ news, @Ne Nat p.1 q.1) → News h₀ L h' [q]) : News h₀ L h' (ex ++ c' :: l) := fun q hq => by
  rcases List.mem_append.mp hq with hq | hq
  · exact N' q (m' q (List.mem_append_left _ hq))
  rcases List.mem_cons.mp hq with rfl | hq
  · exact N' q (m' q (List.mem_append_right _ (List.mem_cons_self ..)))
  by_cases hn : ∀ p ∈ news, @Ne Nat p.1 q.1
  · exact K q (List.mem_cons_of_mem _ hq) hn q (List.mem_cons_self ..)
  · obtain ⟨p, hp⟩ := Classical.not_forall.mp hn
    obtain ⟨hp, e⟩ := Classical.not_imp.mp hp
    have e' : p.1 = q.1 := Classical.not_not.mp e
    rcases sub p hp with rfl | ⟨hl, hn'⟩
    · exact absurd e'.symm (off q hq)
    · have h1 := (N p (List.mem_cons_of_mem _ hl)).1
      rw [e', (N q (List.mem_cons_of_mem _ hq)).1] at h1
      have e2 : q = p := Prod.ext e'.symm (Option.some.inj h1)
      exact N' q (e2 ▸ hn')
section
variable {prog : Program} {A : Around} {E : Value → Shared → Prop} {s : Shared} {h₀ : Heap} {L a b : Addr} {m : PySem.Str → Option Value} {news n₁ n₂ : Led} {oa ob : Obj} {xs ys : List Value} {ka kb : Nat} {ds : List Dat} {Q : Value → Shared → Prop}
theorem kqd_ne_same (N : News h₀ L s.heap news) (ma : (a, oa) ∈ news) (ca : oa.cls = .type "list") (da : oa.data = .seq xs.toArray ka) (Da : DatAll n₁ xs ds) (sa : ∀ p ∈ n₁, p ∈ news)
    (mb : (b, ob) ∈ news) (cb : ob.cls = .type "list") (db : ob.data = .seq ys.toArray kb) (Db : DatAll n₂ ys ds) (sb : ∀ p ∈ n₂, p ∈ news)
    (ha : ∀ d ∈ ds, kqdOk 8 d = true) (hu : A.units + 64 < cLine) (h : Q (.bool false) s) : wpAny (model prog w) A (compareOp .NotEq (.ref a) (.ref b)) Q E s :=
  kqd_ne N ma ca da Da sa mb cb db Db sb ha ha hu (by simpa using h)
end
theorem DistL.ins {a b : Led} {d : Addr × Obj} (h : DistL (a ++ b)) (hn : ∀ q ∈ a ++ b, @LT.lt Nat _ q.1 d.1) : DistL (a ++ d :: b) := (h.cons hn).perm List.perm_middle.symm
theorem hlt_of_mem {a : Nat} {l : Led} (h : ∀ q ∈ l, @LT.lt Nat _ q.1 a) {x : Nat} (hm : x ∈ l.map (·.1)) : x < a := by
  obtain ⟨q, hq, rfl⟩ := List.mem_map.mp hm
  exact h q hq
end
end
theorem offLDa : True := by
  w_top off
  exact True.intro
section
open PySem PySem.W PySem.Spec PySem.Calls PyProof.Rows
section
variable {w : World} {p : Program} {loose : List PySem.Str} {mean : ExcName → Option Value} {mg mb : PySem.Str → Option Value}
noncomputable def rwO (V : Nat → Nat → Int) (T : Nat → Nat → Tok) (i : Nat) : Obj := lstO [.int (V i 0) (T i 0), .int (V i 1) (T i 1), .int (V i 2) (T i 2)]
noncomputable def up2 {α : Type} (f : Nat → Nat → α) (a b : Nat) (x : α) : Nat → Nat → α := fun i j => if i = a ∧ j = b then x else f i j
noncomputable def sqL (SQ : Addr) (R : Nat → Addr) (V : Nat → Nat → Int) (T : Nat → Nat → Tok) (tl : Led) : Led :=
  (SQ, lstO [.ref (R 0), .ref (R 1), .ref (R 2)]) :: (R 2, rwO V T 2) :: (R 1, rwO V T 1) :: (R 0, rwO V T 0) :: tl
theorem cas3 {P : Nat → Prop} {a : Nat} (h : a < 3) (h0 : P 0) (h1 : P 1) (h2 : P 2) : P a := by
  match a, h with
  | 0, _ => exact h0
  | 1, _ => exact h1
  | 2, _ => exact h2
section
variable {prog : Program} {A : Around} {E : Value → Shared → Prop} {s : Shared} {h₀ : Heap} {L SQ : Addr} {R : Nat → Addr} {V : Nat → Nat → Int} {T : Nat → Nat → Tok} {tl : Led} {m : PySem.Str → Option Value}
theorem sq_rowS {value slice : PySem.Expr} {a : Nat} {t : Tok} {Q : Value → Shared → Prop} (ha : a < 3) (N : News h₀ L s.heap (sqL SQ R V T tl)) (h : Q (.ref (R a)) s) (hs : subscripted slice false (.ref SQ) (.int (a : Int) t) = operate [.ref SQ, .int (a : Int) t] (getItem (.ref SQ) (.int (a : Int) t))) : wpAny (model prog w) A (subscriptTail value slice (.ref SQ) (.int (a : Int) t)) Q E s :=
  item_litK (isL N (List.mem_cons_self ..)) (Int.natCast_nonneg a) (by (first | lia | omega)) (by rw [Int.toNat_natCast]; exact cas3 (P := fun a => [Value.ref (R 0), .ref (R 1), .ref (R 2)][a]? = some (.ref (R a))) ha rfl rfl rfl) h hs
theorem sq_isl {a : Nat} (ha : a < 3) (N : News h₀ L s.heap (sqL SQ R V T tl)) : s.heap.IsList (R a) [Value.int (V a 0) (T a 0), .int (V a 1) (T a 1), .int (V a 2) (T a 2)].toArray :=
  isL N (cas3 (P := fun a => (R a, rwO V T a) ∈ sqL SQ R V T tl) ha (.tail _ (.tail _ (.tail _ (.head _)))) (.tail _ (.tail _ (.head _))) (.tail _ (.head _)))
theorem sq_item {a b : Nat} {t : Tok} {Q : Value → Shared → Prop} (ha : a < 3) (hb : b < 3) (N : News h₀ L s.heap (sqL SQ R V T tl)) (h : Q (.int (V a b) (T a b)) s) : wpAny (model prog w) A (getItem (.ref (R a)) (.int (b : Int) t)) Q E s :=
  getItem_listL (sq_isl ha N) (Int.natCast_nonneg b) (by (first | lia | omega)) (by rw [Int.toNat_natCast]; exact cas3 (P := fun b => [Value.int (V a 0) (T a 0), .int (V a 1) (T a 1), .int (V a 2) (T a 2)][b]? = some (.int (V a b) (T a b))) hb rfl rfl rfl) h
structure SqD (SQ : Addr) (R : Nat → Addr) (tl : Led) : Prop where
  r01 : @Ne Nat (R 0) (R 1)
  r02 : @Ne Nat (R 0) (R 2)
  r12 : @Ne Nat (R 1) (R 2)
  sq : ∀ i, i < 3 → @Ne Nat SQ (R i)
  tl : ∀ i, i < 3 → ∀ p ∈ tl, @Ne Nat p.1 (R i)
theorem rw_ne {V : Nat → Nat → Int} {T : Nat → Nat → Tok} {a b i : Nat} {x : Int} {u : Tok} (h : i ≠ a) : rwO (up2 V a b x) (up2 T a b u) i = rwO V T i := by
  simp [rwO, up2, h]
theorem sq_set {a b : Nat} {t u : Tok} {x : Int} {Q : Unit → Shared → Prop} (ha : a < 3) (hb : b < 3) (D : SqD SQ R tl) (F : Fr h₀ L s.heap m) (N : News h₀ L s.heap (sqL SQ R V T tl))
    (h : ∀ h', Fr h₀ L h' m → News h₀ L h' (sqL SQ R (up2 V a b x) (up2 T a b u) tl) → Q () { s with heap := h' }) : wpAny (model prog w) A (setItem (.ref (R a)) (.int (b : Int) t) (.int x u)) Q E s := by
  refine ki_set (its := #[Value.int (V a 0) (T a 0), .int (V a 1) (T a 1), .int (V a 2) (T a 2)]) (n := 0) (q := [Value.int (up2 V a b x a 0) (up2 T a b u a 0), .int (up2 V a b x a 1) (up2 T a b u a 1), .int (up2 V a b x a 2) (up2 T a b u a 2)]) F N (Int.natCast_nonneg b) (by (first | lia | omega)) ?_ ?_ h
  · rw [Int.toNat_natCast]
    exact cas3 (P := fun b => ki_setL [Value.int (V a 0) (T a 0), .int (V a 1) (T a 1), .int (V a 2) (T a 2)] b (.int x u) = some [Value.int (up2 V a b x a 0) (up2 T a b u a 0), .int (up2 V a b x a 1) (up2 T a b u a 1), .int (up2 V a b x a 2) (up2 T a b u a 2)]) hb (by simp [ki_setL, up2]) (by simp [ki_setL, up2]) (by simp [ki_setL, up2])
  · revert ha
    exact fun ha => cas3 (P := fun a => SqD SQ R tl → Upd (R a) (rwO V T a) (rwO (up2 V a b x) (up2 T a b u) a) (sqL SQ R V T tl) (sqL SQ R (up2 V a b x) (up2 T a b u) tl)) ha
      (fun D => by
        unfold sqL; rw [rw_ne (i := 1) (by decide), rw_ne (i := 2) (by decide)]
        exact .tail (D.sq 0 (by decide)) (.tail D.r02.symm (.tail D.r01.symm (.head (D.tl 0 (by decide))))))
      (fun D => by
        unfold sqL; rw [rw_ne (i := 0) (by decide), rw_ne (i := 2) (by decide)]
        exact .tail (D.sq 1 (by decide)) (.tail D.r12.symm (.head fun p hp => by
          rcases List.mem_cons.mp hp with rfl | hp
          · exact D.r01
          · exact D.tl 1 (by decide) p hp)))
      (fun D => by
        unfold sqL; rw [rw_ne (i := 0) (by decide), rw_ne (i := 1) (by decide)]
        exact .tail (D.sq 2 (by decide)) (.head fun p hp => by
          rcases List.mem_cons.mp hp with rfl | hp
          · exact D.r12
          rcases List.mem_cons.mp hp with rfl | hp
          · exact D.r02
          · exact D.tl 2 (by decide) p hp)) D
end
set_option maxHeartbeats 4000000 in
theorem ldPair {stm rest : List Stmt} {scope : Scope} (hb : (stm, scope) = (forBody 5 (topFn 26).1, (topFn 26).2)) {a b : Nat} (ha : a < 3) (hb3 : b < 3)
    {dp un : Nat} {gd : Option (List Code)} {cn : PySem.Str} {cs : Scope} {L fa LL : Addr} {ccd : Value} {cl : List (PySem.Str × Addr)} {outer : List Env} {gg : Heap} {m : PySem.Str → Option Value} {s : Shared} {E : Value → Shared → Prop} {Q : Flow → Shared → Prop}
    {SQ : Addr} {R : Nat → Addr} {V : Nat → Nat → Int} {T : Nat → Nat → Tok} {tl : Led} {q sm wd : Int} {ta tb tq ts tw : Tok} (D : SqD SQ R tl) (F : Fr gg LL s.heap fun y => if y = "far" then some (.int (b : Int) tb) else if y = "near" then some (.int (a : Int) ta) else if y = "q" then some (.int q tq) else if y = "s" then some (.int sm ts) else if y = "width" then some (.int wd tw) else if y = "square" then some (.ref SQ) else m y)
    (N : News gg LL s.heap (sqL SQ R V T tl))
    (ret : ∀ h' tk V' T', (V' = up2 (up2 (up2 (up2 V a a (V a a + sm)) b b (up2 V a a (V a a + sm) b b + sm)) a b (up2 (up2 V a a (V a a + sm)) b b (up2 V a a (V a a + sm) b b + sm) a b - q)) b a (up2 (up2 (up2 V a a (V a a + sm)) b b (up2 V a a (V a a + sm) b b + sm)) a b (up2 (up2 V a a (V a a + sm)) b b (up2 V a a (V a a + sm) b b + sm) a b - q) b a - q)) → Fr gg LL h' (fun y => if y = "far" then some (.int (b : Int) tb) else if y = "near" then some (.int (a : Int) ta) else if y = "q" then some (.int q tq) else if y = "s" then some (.int sm ts) else if y = "width" then some (.int wd tw) else if y = "square" then some (.ref SQ) else m y) → News gg LL h' (sqL SQ R V' T' tl) →
      wpAny (model PySem.Challenge.rw_wy0040_01.row.toRowW.prog w) ((ktrTop dp un gd cn cs L fa ccd cl outer).deeper (envOfC "_law_divided" scope LL 276 (.ref 275))) (execs rest (envOfC "_law_divided" scope LL 276 (.ref 275))) Q E { s with heap := h', toks := tk }) :
    wpAny (model PySem.Challenge.rw_wy0040_01.row.toRowW.prog w) ((ktrTop dp un gd cn cs L fa ccd cl outer).deeper (envOfC "_law_divided" scope LL 276 (.ref 275))) (execs (stm ++ rest) (envOfC "_law_divided" scope LL 276 (.ref 275))) Q E s := by
  conv at hb => {rhs; arg 1; whnf}
  conv at hb => {rhs; arg 2; whnf}
  simp only [Prod.mk.injEq] at hb
  obtain ⟨rfl, rfl⟩ := hb
  simp only [List.take_succ_cons, List.take_zero, List.cons_append, List.nil_append]
  try dsimp only
  (repeat' (first | (k_unfold; (try dsimp only)) | ((fail_if_success (with_reducible first | show wpAny _ _ (PySem.call (Value.ref _) _) _ _ _ | show wpAny _ _ (pyIter (Value.ref _)) _ _ _ | show wpAny _ _ (exec (Stmt.For _ _ _ _ _) _) _ _ _ | show wpAny _ _ (subscriptTail _ _ _ _) _ _ _ | show DEnd _ _ _ _ _ _ _ _ _ _ _ _ _ _ | show wpAny _ _ (setItem _ _ _) _ _ _ | show wpAny _ _ (getItem _ _) _ _ _ | show LCg.CompSrc _ _ _ _ _ _ _ _ _ _ _ _ _ _ | show LCg.CompEnd _ _ _ _ _ _ _ _ _ _ _ _ _ _ | show wpAny _ _ (eval (Expr.ListComp _ _ _ _) _) _ _ _ | show wpAny _ _ (eval (Expr.DictComp _ _ _ _ _) _) _ _ _ | show wpAny _ _ (exec (Stmt.Assign _ (Expr.ListComp _ _ _ _) _) _) _ _ _ | show wpAny _ _ (exec (Stmt.Assign _ (Expr.DictComp _ _ _ _ _) _) _) _ _ _ | show _ ≤ _)); (first | walk1 | (dsimp only; walk1)) <;> (try dsimp only)) | (leave1; try dsimp only) | fail "no step"))

  refine sq_rowS ha N ?_ (by with_unfolding_all rfl)
  (repeat' (first | (k_unfold; (try dsimp only)) | ((fail_if_success (with_reducible first | show wpAny _ _ (PySem.call (Value.ref _) _) _ _ _ | show wpAny _ _ (pyIter (Value.ref _)) _ _ _ | show wpAny _ _ (exec (Stmt.For _ _ _ _ _) _) _ _ _ | show wpAny _ _ (subscriptTail _ _ _ _) _ _ _ | show DEnd _ _ _ _ _ _ _ _ _ _ _ _ _ _ | show wpAny _ _ (setItem _ _ _) _ _ _ | show wpAny _ _ (getItem _ _) _ _ _ | show LCg.CompSrc _ _ _ _ _ _ _ _ _ _ _ _ _ _ | show LCg.CompEnd _ _ _ _ _ _ _ _ _ _ _ _ _ _ | show wpAny _ _ (eval (Expr.ListComp _ _ _ _) _) _ _ _ | show wpAny _ _ (eval (Expr.DictComp _ _ _ _ _) _) _ _ _ | show wpAny _ _ (exec (Stmt.Assign _ (Expr.ListComp _ _ _ _) _) _) _ _ _ | show wpAny _ _ (exec (Stmt.Assign _ (Expr.DictComp _ _ _ _ _) _) _) _ _ _ | show _ ≤ _)); (first | walk1 | (dsimp only; walk1)) <;> (try dsimp only)) | (leave1; try dsimp only) | fail "no step"))
  refine sq_item ha ha N ?_
  (repeat' (first | (k_unfold; (try dsimp only)) | ((fail_if_success (with_reducible first | show wpAny _ _ (PySem.call (Value.ref _) _) _ _ _ | show wpAny _ _ (pyIter (Value.ref _)) _ _ _ | show wpAny _ _ (exec (Stmt.For _ _ _ _ _) _) _ _ _ | show wpAny _ _ (subscriptTail _ _ _ _) _ _ _ | show DEnd _ _ _ _ _ _ _ _ _ _ _ _ _ _ | show wpAny _ _ (setItem _ _ _) _ _ _ | show wpAny _ _ (getItem _ _) _ _ _ | show LCg.CompSrc _ _ _ _ _ _ _ _ _ _ _ _ _ _ | show LCg.CompEnd _ _ _ _ _ _ _ _ _ _ _ _ _ _ | show wpAny _ _ (eval (Expr.ListComp _ _ _ _) _) _ _ _ | show wpAny _ _ (eval (Expr.DictComp _ _ _ _ _) _) _ _ _ | show wpAny _ _ (exec (Stmt.Assign _ (Expr.ListComp _ _ _ _) _) _) _ _ _ | show wpAny _ _ (exec (Stmt.Assign _ (Expr.DictComp _ _ _ _ _) _) _) _ _ _ | show _ ≤ _)); (first | walk1 | (dsimp only; walk1)) <;> (try dsimp only)) | (leave1; try dsimp only) | fail "no step"))
  refine sq_set ha ha D F N (fun h0 F0 N0 => ?_)
  clear F N
  (repeat' (first | (k_unfold; (try dsimp only)) | ((fail_if_success (with_reducible first | show wpAny _ _ (PySem.call (Value.ref _) _) _ _ _ | show wpAny _ _ (pyIter (Value.ref _)) _ _ _ | show wpAny _ _ (exec (Stmt.For _ _ _ _ _) _) _ _ _ | show wpAny _ _ (subscriptTail _ _ _ _) _ _ _ | show DEnd _ _ _ _ _ _ _ _ _ _ _ _ _ _ | show wpAny _ _ (setItem _ _ _) _ _ _ | show wpAny _ _ (getItem _ _) _ _ _ | show LCg.CompSrc _ _ _ _ _ _ _ _ _ _ _ _ _ _ | show LCg.CompEnd _ _ _ _ _ _ _ _ _ _ _ _ _ _ | show wpAny _ _ (eval (Expr.ListComp _ _ _ _) _) _ _ _ | show wpAny _ _ (eval (Expr.DictComp _ _ _ _ _) _) _ _ _ | show wpAny _ _ (exec (Stmt.Assign _ (Expr.ListComp _ _ _ _) _) _) _ _ _ | show wpAny _ _ (exec (Stmt.Assign _ (Expr.DictComp _ _ _ _ _) _) _) _ _ _ | show _ ≤ _)); (first | walk1 | (dsimp only; walk1)) <;> (try dsimp only)) | (leave1; try dsimp only) | fail "no step"))
  refine sq_rowS hb3 N0 ?_ (by with_unfolding_all rfl)
  (repeat' (first | (k_unfold; (try dsimp only)) | ((fail_if_success (with_reducible first | show wpAny _ _ (PySem.call (Value.ref _) _) _ _ _ | show wpAny _ _ (pyIter (Value.ref _)) _ _ _ | show wpAny _ _ (exec (Stmt.For _ _ _ _ _) _) _ _ _ | show wpAny _ _ (subscriptTail _ _ _ _) _ _ _ | show DEnd _ _ _ _ _ _ _ _ _ _ _ _ _ _ | show wpAny _ _ (setItem _ _ _) _ _ _ | show wpAny _ _ (getItem _ _) _ _ _ | show LCg.CompSrc _ _ _ _ _ _ _ _ _ _ _ _ _ _ | show LCg.CompEnd _ _ _ _ _ _ _ _ _ _ _ _ _ _ | show wpAny _ _ (eval (Expr.ListComp _ _ _ _) _) _ _ _ | show wpAny _ _ (eval (Expr.DictComp _ _ _ _ _) _) _ _ _ | show wpAny _ _ (exec (Stmt.Assign _ (Expr.ListComp _ _ _ _) _) _) _ _ _ | show wpAny _ _ (exec (Stmt.Assign _ (Expr.DictComp _ _ _ _ _) _) _) _ _ _ | show _ ≤ _)); (first | walk1 | (dsimp only; walk1)) <;> (try dsimp only)) | (leave1; try dsimp only) | fail "no step"))
  refine sq_item hb3 hb3 N0 ?_
  (repeat' (first | (k_unfold; (try dsimp only)) | ((fail_if_success (with_reducible first | show wpAny _ _ (PySem.call (Value.ref _) _) _ _ _ | show wpAny _ _ (pyIter (Value.ref _)) _ _ _ | show wpAny _ _ (exec (Stmt.For _ _ _ _ _) _) _ _ _ | show wpAny _ _ (subscriptTail _ _ _ _) _ _ _ | show DEnd _ _ _ _ _ _ _ _ _ _ _ _ _ _ | show wpAny _ _ (setItem _ _ _) _ _ _ | show wpAny _ _ (getItem _ _) _ _ _ | show LCg.CompSrc _ _ _ _ _ _ _ _ _ _ _ _ _ _ | show LCg.CompEnd _ _ _ _ _ _ _ _ _ _ _ _ _ _ | show wpAny _ _ (eval (Expr.ListComp _ _ _ _) _) _ _ _ | show wpAny _ _ (eval (Expr.DictComp _ _ _ _ _) _) _ _ _ | show wpAny _ _ (exec (Stmt.Assign _ (Expr.ListComp _ _ _ _) _) _) _ _ _ | show wpAny _ _ (exec (Stmt.Assign _ (Expr.DictComp _ _ _ _ _) _) _) _ _ _ | show _ ≤ _)); (first | walk1 | (dsimp only; walk1)) <;> (try dsimp only)) | (leave1; try dsimp only) | fail "no step"))
  refine sq_set hb3 hb3 D F0 N0 (fun h1 F1 N1 => ?_)
  clear F0 N0
  (repeat' (first | (k_unfold; (try dsimp only)) | ((fail_if_success (with_reducible first | show wpAny _ _ (PySem.call (Value.ref _) _) _ _ _ | show wpAny _ _ (pyIter (Value.ref _)) _ _ _ | show wpAny _ _ (exec (Stmt.For _ _ _ _ _) _) _ _ _ | show wpAny _ _ (subscriptTail _ _ _ _) _ _ _ | show DEnd _ _ _ _ _ _ _ _ _ _ _ _ _ _ | show wpAny _ _ (setItem _ _ _) _ _ _ | show wpAny _ _ (getItem _ _) _ _ _ | show LCg.CompSrc _ _ _ _ _ _ _ _ _ _ _ _ _ _ | show LCg.CompEnd _ _ _ _ _ _ _ _ _ _ _ _ _ _ | show wpAny _ _ (eval (Expr.ListComp _ _ _ _) _) _ _ _ | show wpAny _ _ (eval (Expr.DictComp _ _ _ _ _) _) _ _ _ | show wpAny _ _ (exec (Stmt.Assign _ (Expr.ListComp _ _ _ _) _) _) _ _ _ | show wpAny _ _ (exec (Stmt.Assign _ (Expr.DictComp _ _ _ _ _) _) _) _ _ _ | show _ ≤ _)); (first | walk1 | (dsimp only; walk1)) <;> (try dsimp only)) | (leave1; try dsimp only) | fail "no step"))
  refine sq_rowS ha N1 ?_ (by with_unfolding_all rfl)
  (repeat' (first | (k_unfold; (try dsimp only)) | ((fail_if_success (with_reducible first | show wpAny _ _ (PySem.call (Value.ref _) _) _ _ _ | show wpAny _ _ (pyIter (Value.ref _)) _ _ _ | show wpAny _ _ (exec (Stmt.For _ _ _ _ _) _) _ _ _ | show wpAny _ _ (subscriptTail _ _ _ _) _ _ _ | show DEnd _ _ _ _ _ _ _ _ _ _ _ _ _ _ | show wpAny _ _ (setItem _ _ _) _ _ _ | show wpAny _ _ (getItem _ _) _ _ _ | show LCg.CompSrc _ _ _ _ _ _ _ _ _ _ _ _ _ _ | show LCg.CompEnd _ _ _ _ _ _ _ _ _ _ _ _ _ _ | show wpAny _ _ (eval (Expr.ListComp _ _ _ _) _) _ _ _ | show wpAny _ _ (eval (Expr.DictComp _ _ _ _ _) _) _ _ _ | show wpAny _ _ (exec (Stmt.Assign _ (Expr.ListComp _ _ _ _) _) _) _ _ _ | show wpAny _ _ (exec (Stmt.Assign _ (Expr.DictComp _ _ _ _ _) _) _) _ _ _ | show _ ≤ _)); (first | walk1 | (dsimp only; walk1)) <;> (try dsimp only)) | (leave1; try dsimp only) | fail "no step"))
  refine sq_item ha hb3 N1 ?_
  (repeat' (first | (k_unfold; (try dsimp only)) | ((fail_if_success (with_reducible first | show wpAny _ _ (PySem.call (Value.ref _) _) _ _ _ | show wpAny _ _ (pyIter (Value.ref _)) _ _ _ | show wpAny _ _ (exec (Stmt.For _ _ _ _ _) _) _ _ _ | show wpAny _ _ (subscriptTail _ _ _ _) _ _ _ | show DEnd _ _ _ _ _ _ _ _ _ _ _ _ _ _ | show wpAny _ _ (setItem _ _ _) _ _ _ | show wpAny _ _ (getItem _ _) _ _ _ | show LCg.CompSrc _ _ _ _ _ _ _ _ _ _ _ _ _ _ | show LCg.CompEnd _ _ _ _ _ _ _ _ _ _ _ _ _ _ | show wpAny _ _ (eval (Expr.ListComp _ _ _ _) _) _ _ _ | show wpAny _ _ (eval (Expr.DictComp _ _ _ _ _) _) _ _ _ | show wpAny _ _ (exec (Stmt.Assign _ (Expr.ListComp _ _ _ _) _) _) _ _ _ | show wpAny _ _ (exec (Stmt.Assign _ (Expr.DictComp _ _ _ _ _) _) _) _ _ _ | show _ ≤ _)); (first | walk1 | (dsimp only; walk1)) <;> (try dsimp only)) | (leave1; try dsimp only) | fail "no step"))
  refine sq_set ha hb3 D F1 N1 (fun h2 F2 N2 => ?_)
  clear F1 N1
  (repeat' (first | (k_unfold; (try dsimp only)) | ((fail_if_success (with_reducible first | show wpAny _ _ (PySem.call (Value.ref _) _) _ _ _ | show wpAny _ _ (pyIter (Value.ref _)) _ _ _ | show wpAny _ _ (exec (Stmt.For _ _ _ _ _) _) _ _ _ | show wpAny _ _ (subscriptTail _ _ _ _) _ _ _ | show DEnd _ _ _ _ _ _ _ _ _ _ _ _ _ _ | show wpAny _ _ (setItem _ _ _) _ _ _ | show wpAny _ _ (getItem _ _) _ _ _ | show LCg.CompSrc _ _ _ _ _ _ _ _ _ _ _ _ _ _ | show LCg.CompEnd _ _ _ _ _ _ _ _ _ _ _ _ _ _ | show wpAny _ _ (eval (Expr.ListComp _ _ _ _) _) _ _ _ | show wpAny _ _ (eval (Expr.DictComp _ _ _ _ _) _) _ _ _ | show wpAny _ _ (exec (Stmt.Assign _ (Expr.ListComp _ _ _ _) _) _) _ _ _ | show wpAny _ _ (exec (Stmt.Assign _ (Expr.DictComp _ _ _ _ _) _) _) _ _ _ | show _ ≤ _)); (first | walk1 | (dsimp only; walk1)) <;> (try dsimp only)) | (leave1; try dsimp only) | fail "no step"))
  refine sq_rowS hb3 N2 ?_ (by with_unfolding_all rfl)
  (repeat' (first | (k_unfold; (try dsimp only)) | ((fail_if_success (with_reducible first | show wpAny _ _ (PySem.call (Value.ref _) _) _ _ _ | show wpAny _ _ (pyIter (Value.ref _)) _ _ _ | show wpAny _ _ (exec (Stmt.For _ _ _ _ _) _) _ _ _ | show wpAny _ _ (subscriptTail _ _ _ _) _ _ _ | show DEnd _ _ _ _ _ _ _ _ _ _ _ _ _ _ | show wpAny _ _ (setItem _ _ _) _ _ _ | show wpAny _ _ (getItem _ _) _ _ _ | show LCg.CompSrc _ _ _ _ _ _ _ _ _ _ _ _ _ _ | show LCg.CompEnd _ _ _ _ _ _ _ _ _ _ _ _ _ _ | show wpAny _ _ (eval (Expr.ListComp _ _ _ _) _) _ _ _ | show wpAny _ _ (eval (Expr.DictComp _ _ _ _ _) _) _ _ _ | show wpAny _ _ (exec (Stmt.Assign _ (Expr.ListComp _ _ _ _) _) _) _ _ _ | show wpAny _ _ (exec (Stmt.Assign _ (Expr.DictComp _ _ _ _ _) _) _) _ _ _ | show _ ≤ _)); (first | walk1 | (dsimp only; walk1)) <;> (try dsimp only)) | (leave1; try dsimp only) | fail "no step"))
  refine sq_item hb3 ha N2 ?_
  (repeat' (first | (k_unfold; (try dsimp only)) | ((fail_if_success (with_reducible first | show wpAny _ _ (PySem.call (Value.ref _) _) _ _ _ | show wpAny _ _ (pyIter (Value.ref _)) _ _ _ | show wpAny _ _ (exec (Stmt.For _ _ _ _ _) _) _ _ _ | show wpAny _ _ (subscriptTail _ _ _ _) _ _ _ | show DEnd _ _ _ _ _ _ _ _ _ _ _ _ _ _ | show wpAny _ _ (setItem _ _ _) _ _ _ | show wpAny _ _ (getItem _ _) _ _ _ | show LCg.CompSrc _ _ _ _ _ _ _ _ _ _ _ _ _ _ | show LCg.CompEnd _ _ _ _ _ _ _ _ _ _ _ _ _ _ | show wpAny _ _ (eval (Expr.ListComp _ _ _ _) _) _ _ _ | show wpAny _ _ (eval (Expr.DictComp _ _ _ _ _) _) _ _ _ | show wpAny _ _ (exec (Stmt.Assign _ (Expr.ListComp _ _ _ _) _) _) _ _ _ | show wpAny _ _ (exec (Stmt.Assign _ (Expr.DictComp _ _ _ _ _) _) _) _ _ _ | show _ ≤ _)); (first | walk1 | (dsimp only; walk1)) <;> (try dsimp only)) | (leave1; try dsimp only) | fail "no step"))
  refine sq_set hb3 ha D F2 N2 (fun h3 F3 N3 => ?_)
  clear F2 N2
  (repeat' (first | (k_unfold; (try dsimp only)) | ((fail_if_success (with_reducible first | show wpAny _ _ (PySem.call (Value.ref _) _) _ _ _ | show wpAny _ _ (pyIter (Value.ref _)) _ _ _ | show wpAny _ _ (exec (Stmt.For _ _ _ _ _) _) _ _ _ | show wpAny _ _ (subscriptTail _ _ _ _) _ _ _ | show DEnd _ _ _ _ _ _ _ _ _ _ _ _ _ _ | show wpAny _ _ (setItem _ _ _) _ _ _ | show wpAny _ _ (getItem _ _) _ _ _ | show LCg.CompSrc _ _ _ _ _ _ _ _ _ _ _ _ _ _ | show LCg.CompEnd _ _ _ _ _ _ _ _ _ _ _ _ _ _ | show wpAny _ _ (eval (Expr.ListComp _ _ _ _) _) _ _ _ | show wpAny _ _ (eval (Expr.DictComp _ _ _ _ _) _) _ _ _ | show wpAny _ _ (exec (Stmt.Assign _ (Expr.ListComp _ _ _ _) _) _) _ _ _ | show wpAny _ _ (exec (Stmt.Assign _ (Expr.DictComp _ _ _ _ _) _) _) _ _ _ | show _ ≤ _)); (first | walk1 | (dsimp only; walk1)) <;> (try dsimp only)) | (leave1; try dsimp only) | fail "no step"))
  exact ret _ _ _ _ rfl F3 N3
end
end
theorem offLDb : True := by
  w_top off
  exact True.intro
section
open PySem PySem.W PySem.Spec PySem.Calls PyProof.Rows
section
variable {w : World} {p : Program} {loose : List PySem.Str} {mean : ExcName → Option Value} {mg mb : PySem.Str → Option Value}
set_option maxHeartbeats 4000000 in
theorem ldDet {stm rest : List Stmt} {scope : Scope} (hb : (stm, scope) = (((topFn 26).1.drop 6).take 3, (topFn 26).2))
    {dp un : Nat} {gd : Option (List Code)} {cn : PySem.Str} {cs : Scope} {L fa LL : Addr} {ccd : Value} {cl : List (PySem.Str × Addr)} {outer : List Env} {gg : Heap} {m : PySem.Str → Option Value} {s : Shared} {E : Value → Shared → Prop} {Q : Flow → Shared → Prop}
    {SQ R0 R1 R2 : Addr} {x0 x1 x2 x3 x4 x5 x6 x7 x8 : Int} {t0 t1 t2 t3 t4 t5 t6 t7 t8 : Tok} {tl : Led} {q sm wd : Int} {tq ts tw : Tok} (F : Fr gg LL s.heap fun y => if y = "q" then some (.int q tq) else if y = "s" then some (.int sm ts) else if y = "width" then some (.int wd tw) else if y = "square" then some (.ref SQ) else m y)
    (N : News gg LL s.heap ((SQ, lstO [.ref R0, .ref R1, .ref R2]) :: (R2, lstO [.int x6 t6, .int x7 t7, .int x8 t8]) :: (R1, lstO [.int x3 t3, .int x4 t4, .int x5 t5]) :: (R0, lstO [.int x0 t0, .int x1 t1, .int x2 t2]) :: tl))
    (TT : Top p loose mean mg mb gg)
    (hq : Builtin.Int.intBits q ≤ 1001) (hs : Builtin.Int.intBits sm ≤ 64) (b0 : Builtin.Int.intBits x0 ≤ 2200) (b1 : Builtin.Int.intBits x1 ≤ 2200) (b2 : Builtin.Int.intBits x2 ≤ 2200) (b3 : Builtin.Int.intBits x3 ≤ 2200) (b4 : Builtin.Int.intBits x4 ≤ 2200) (b5 : Builtin.Int.intBits x5 ≤ 2200) (b6 : Builtin.Int.intBits x6 ≤ 2200) (b7 : Builtin.Int.intBits x7 ≤ 2200) (b8 : Builtin.Int.intBits x8 ≤ 2200)
    (ret : ∀ h' tk tv (m' : PySem.Str → Option Value) dv, dv = ((q * q - sm * sm) * (x0 * (x4 * x8 - x5 * x7) - x1 * (x3 * x8 - x5 * x6) + x2 * (x3 * x7 - x4 * x6))) → Fr gg LL h' (fun y => if y = "divisor" then some (.int dv tv) else if y = "q" then some (.int q tq) else if y = "width" then some (.int wd tw) else m' y) → News gg LL h' tl →
      wpAny (model PySem.Challenge.rw_wy0040_01.row.toRowW.prog w) ((ktrTop dp un gd cn cs L fa ccd cl outer).deeper (envOfC "_law_divided" scope LL 276 (.ref 275))) (execs rest (envOfC "_law_divided" scope LL 276 (.ref 275))) Q E { s with heap := h', toks := tk }) :
    wpAny (model PySem.Challenge.rw_wy0040_01.row.toRowW.prog w) ((ktrTop dp un gd cn cs L fa ccd cl outer).deeper (envOfC "_law_divided" scope LL 276 (.ref 275))) (execs (stm ++ rest) (envOfC "_law_divided" scope LL 276 (.ref 275))) Q E s := by
  conv at hb => {rhs; arg 1; whnf}
  conv at hb => {rhs; arg 2; whnf}
  simp only [Prod.mk.injEq] at hb
  obtain ⟨rfl, rfl⟩ := hb
  simp only [List.take_succ_cons, List.take_zero, List.cons_append, List.nil_append]
  try dsimp only
  (repeat' (first | (k_unfold; (try dsimp only)) | ((fail_if_success (with_reducible first | show wpAny _ _ (PySem.call (Value.ref _) _) _ _ _ | show wpAny _ _ (pyIter (Value.ref _)) _ _ _ | show wpAny _ _ (exec (Stmt.For _ _ _ _ _) _) _ _ _ | show LCg.CompSrc _ _ _ _ _ _ _ _ _ _ _ _ _ _ | show LCg.CompEnd _ _ _ _ _ _ _ _ _ _ _ _ _ _ | show wpAny _ _ (eval (Expr.ListComp _ _ _ _) _) _ _ _ | show wpAny _ _ (eval (Expr.DictComp _ _ _ _ _) _) _ _ _ | show wpAny _ _ (exec (Stmt.Assign _ (Expr.ListComp _ _ _ _) _) _) _ _ _ | show wpAny _ _ (exec (Stmt.Assign _ (Expr.DictComp _ _ _ _ _) _) _) _ _ _ | show _ ≤ _)); (first | walk1 | (dsimp only; walk1)) <;> (try dsimp only)) | (leave1; try dsimp only) | fail "no step"))
  refine' kun_list ?k1 ?k2 ?k3 ?k4 ?k5 ?k6 ?_
  case k1 => k_asm
  case k2 => k_asm
  case k3 => kun_lst
  case k4 => exact rfl
  case k5 => exact rfl
  case k6 => exact rfl
  intro h2 F2 N2
  clear F N
  try dsimp only
  repeat ((repeat' (first | (k_unfold; (try dsimp only)) | ((fail_if_success (with_reducible first | show wpAny _ _ (PySem.call (Value.ref _) _) _ _ _ | show wpAny _ _ (pyIter (Value.ref _)) _ _ _ | show wpAny _ _ (exec (Stmt.For _ _ _ _ _) _) _ _ _ | show wpAny _ _ (subscriptTail _ _ _ _) _ _ _ | show DEnd _ _ _ _ _ _ _ _ _ _ _ _ _ _ | show wpAny _ _ (setItem _ _ _) _ _ _ | show wpAny _ _ (getItem _ _) _ _ _ | show LCg.CompSrc _ _ _ _ _ _ _ _ _ _ _ _ _ _ | show LCg.CompEnd _ _ _ _ _ _ _ _ _ _ _ _ _ _ | show wpAny _ _ (eval (Expr.ListComp _ _ _ _) _) _ _ _ | show wpAny _ _ (eval (Expr.DictComp _ _ _ _ _) _) _ _ _ | show wpAny _ _ (exec (Stmt.Assign _ (Expr.ListComp _ _ _ _) _) _) _ _ _ | show wpAny _ _ (exec (Stmt.Assign _ (Expr.DictComp _ _ _ _ _) _) _) _ _ _ | show _ ≤ _)); (first | walk1 | (dsimp only; walk1)) <;> (try dsimp only)) | (leave1; try dsimp only) | fail "no step")); (refine item_litK (isL (by k_asm) (by (with_reducible repeat' first | exact List.mem_cons_self .. | refine List.mem_cons_of_mem _ ?_))) (by decide) (by decide) rfl ?_ (by with_unfolding_all rfl)))
  (repeat' (first | (k_unfold; (try dsimp only)) | ((fail_if_success (with_reducible first | show wpAny _ _ (PySem.call (Value.ref _) _) _ _ _ | show wpAny _ _ (pyIter (Value.ref _)) _ _ _ | show wpAny _ _ (exec (Stmt.For _ _ _ _ _) _) _ _ _ | show wpAny _ _ (subscriptTail _ _ _ _) _ _ _ | show DEnd _ _ _ _ _ _ _ _ _ _ _ _ _ _ | show wpAny _ _ (setItem _ _ _) _ _ _ | show wpAny _ _ (getItem _ _) _ _ _ | show LCg.CompSrc _ _ _ _ _ _ _ _ _ _ _ _ _ _ | show LCg.CompEnd _ _ _ _ _ _ _ _ _ _ _ _ _ _ | show wpAny _ _ (eval (Expr.ListComp _ _ _ _) _) _ _ _ | show wpAny _ _ (eval (Expr.DictComp _ _ _ _ _) _) _ _ _ | show wpAny _ _ (exec (Stmt.Assign _ (Expr.ListComp _ _ _ _) _) _) _ _ _ | show wpAny _ _ (exec (Stmt.Assign _ (Expr.DictComp _ _ _ _ _) _) _) _ _ _ | show _ ≤ _)); (first | walk1 | (dsimp only; walk1)) <;> (try dsimp only)) | (leave1; try dsimp only) | fail "no step"))
  exact ret _ _ _ _ _ rfl (see3 (by k_asm) rfl rfl rfl) (cb_drop (by k_asm) (by ki_room))
end
end
theorem offLDc : True := by
  w_top off
  exact True.intro
section
open PySem PySem.W PySem.Spec PySem.Calls PyProof.Rows
section
variable {w : World} {p : Program} {loose : List PySem.Str} {mean : ExcName → Option Value} {mg mb : PySem.Str → Option Value}
set_option maxHeartbeats 4000000 in
theorem ldFig {stm rest : List Stmt} {scope : Scope} (hb : (stm, scope) = (((topFn 26).1.drop 9).take 2, (topFn 26).2))
    {dp un : Nat} {gd : Option (List Code)} {cn : PySem.Str} {cs : Scope} {L fa LL : Addr} {ccd : Value} {cl : List (PySem.Str × Addr)} {outer : List Env} {base gg : Heap} {m : PySem.Str → Option Value} {s : Shared} {E : Value → Shared → Prop} {Q : Flow → Shared → Prop} (BB : Below (ktrTop dp un gd cn cs L fa ccd cl outer) base (envX cn cs L fa ccd cl :: outer) gg) (XX : (Mine.hd.heap_1 w.params).In gg) (TT : Top p loose mean mg mb gg) (hC : Codes base) (hd : dp + 200 < recursionLimit) (hu : un + 8 * 200 < cLine)
    {o1 oh oP : Obj} {P : Addr} {n : Nat} {q dv hf : Int} {tq tv tw th : Tok} {cc : C8} {pp : P5} (F : Fr gg LL s.heap fun y => if y = "divisor" then some (.int dv tv) else if y = "q" then some (.int q tq) else if y = "width" then some (.int (n : Int) tw) else m y)
    (N : News gg LL s.heap ((LL + 1 + 1, o1) :: (LL + 1, oh) :: (47, tabObj #[]) :: (54, tabObj #[]) :: (P, oP) :: []))
    (h47 : @LT.lt Nat _ 47 LL) (h54 : @LT.lt Nat _ 54 LL) (hP : @LT.lt Nat _ P LL) (dP1 : @Ne Nat 47 P) (dP2 : @Ne Nat 54 P) (hF : o1.data = .cell none) (dh : oh.data = .cell (some (.int hf th))) (hn : 32 ≤ n) (hn2 : n ≤ 1000) (hg : Good cc pp) (hhf : 2 ^ n = 2 * hf) (hdv : dv = hor (2 ^ n) cc) (hfB : Builtin.Int.intBits hf ≤ 20000)
    (hDb : Builtin.Int.intBits dv ≤ 9000)
    (ret : ∀ h' tk c1 oc1 c2 oc2 lG vG oF, @LT.lt Nat _ (LL + 1 + 1) c2 → @LT.lt Nat _ c2 c1 → @LT.lt Nat _ c2 lG → CodeAt q47 oc1 → CodeAt q54 oc2 → oF.data = .cell (some (.ref lG)) → IntsAre vG (figL hf cc) → Fr gg LL h' (fun y => if y = "divisor" then some (.int dv tv) else if y = "q" then some (.int q tq) else if y = "width" then some (.int (n : Int) tw) else m y) →
      News gg LL h' ((LL + 1 + 1, oF) :: (LL + 1, oh) :: (lG, lstO vG) :: (47, tab47 c1) :: (c1, oc1) :: (54, tab54 c2) :: (c2, oc2) :: (P, oP) :: []) →
      wpAny (model PySem.Challenge.rw_wy0040_01.row.toRowW.prog w) ((ktrTop dp un gd cn cs L fa ccd cl outer).deeper (envOfC "_law_divided" scope LL 276 (.ref 275))) (execs rest (envOfC "_law_divided" scope LL 276 (.ref 275))) Q E { s with heap := h', toks := tk }) :
    wpAny (model PySem.Challenge.rw_wy0040_01.row.toRowW.prog w) ((ktrTop dp un gd cn cs L fa ccd cl outer).deeper (envOfC "_law_divided" scope LL 276 (.ref 275))) (execs (stm ++ rest) (envOfC "_law_divided" scope LL 276 (.ref 275))) Q E s := by
  conv at hb => {rhs; arg 1; whnf}
  conv at hb => {rhs; arg 2; whnf}
  simp only [Prod.mk.injEq] at hb
  obtain ⟨rfl, rfl⟩ := hb
  revert XX
  k_fill
  intro XX
  simp only [List.take_succ_cons, List.take_zero, List.cons_append, List.nil_append]
  try dsimp only
  (repeat' (first | (k_unfold; (try dsimp only)) | ((fail_if_success (with_reducible first | show wpAny _ _ (PySem.call (Value.ref _) _) _ _ _ | show wpAny _ _ (pyIter (Value.ref _)) _ _ _ | show wpAny _ _ (exec (Stmt.For _ _ _ _ _) _) _ _ _ | show LCg.CompSrc _ _ _ _ _ _ _ _ _ _ _ _ _ _ | show LCg.CompEnd _ _ _ _ _ _ _ _ _ _ _ _ _ _ | show wpAny _ _ (eval (Expr.ListComp _ _ _ _) _) _ _ _ | show wpAny _ _ (eval (Expr.DictComp _ _ _ _ _) _) _ _ _ | show wpAny _ _ (exec (Stmt.Assign _ (Expr.ListComp _ _ _ _) _) _) _ _ _ | show wpAny _ _ (exec (Stmt.Assign _ (Expr.DictComp _ _ _ _ _) _) _) _ _ _ | show _ ≤ _)); (first | walk1 | (dsimp only; walk1)) <;> (try dsimp only)) | (leave1; try dsimp only) | fail "no step"))
  (rename Fr _ _ _ _ => lF2); (rename News _ _ _ _ => lN2)
  obtain ⟨D0, e⟩ := nmA0 lN2; subst e
  replace lN2 : News gg LL _ ((D0, lstC [.int hf th, .int hf th, .int hf th, .int hf th, .int hf th, .int hf th, .int hf th, .int hf th] 0) :: (_ : Led)) := lN2
  replace lN2 : News gg LL _ ((D0, lstC [.int hf th, .int hf th, .int hf th, .int hf th, .int hf th, .int hf th, .int hf th, .int hf th] 0) :: (LL + 1 + 1, o1) :: (LL + 1, oh) :: (47, tabObj #[]) :: (54, tabObj #[]) :: (P, oP) :: []) := cb_drop lN2 (by ki_room)
  have a1 : @LT.lt Nat _ 54 (LL + 1) := Nat.lt_succ_of_lt h54
  have a2 : @LT.lt Nat _ 54 (LL + 1 + 1) := Nat.lt_succ_of_lt a1
  have a3 : @LT.lt Nat _ 47 (LL + 1) := Nat.lt_succ_of_lt h47
  have a4 : @LT.lt Nat _ 47 (LL + 1 + 1) := Nat.lt_succ_of_lt a3
  have a5 : @Ne Nat 47 54 := by decide
  (k_dflt (refine' Ok.use ?k1n41 ?k2n41 ?k3n41 ?k4n41 ?k5n41 ?kKn41 ?kCn41 (d2i_miss (l := D0) (cp := 0) (ds := [hf, hf, hf, hf, hf, hf, hf, hf]) (n := n) (by assumption) (.cons _ _ (.cons _ _ (.cons _ _ (.cons _ _ (.cons _ _ (.cons _ _ (.cons _ _ (.cons _ _ .nil)))))))) (by simp) (Nat.le_trans hn2 (by decide)) (by simp [hfB]) (by simp)) ?kPn41 ?kapn41 ?kdn41 ?kun41 ?_); (case k1n41 | k2n41 | k3n41 | k4n41 | k5n41 => k_asm); (case kKn41 => exact rfl); (case kCn41 => assumption); (case kPn41 => (repeat' first | exact Picks.nil | (with_reducible exact Pick.head) | apply Picks.cons | apply Pick.tail)); (case kapn41 => (k_whole; unfold Apart; repeat' (first | exact List.forall_mem_nil _ | (refine List.forall_mem_cons.mpr ⟨?_, ?_⟩) | k_ne))); (case kdn41 => (first | exact room1 (by assumption) rfl | exact room0 (by assumption) | ktr_room)); (case kun41 => (first | exact units1 (by assumption) rfl | ktr_units)))
  intro b9 r9 n9 h9 tk9 U9 F9 N9 hp9
  obtain ⟨c2, oc2, t9, lt9, hc2, rfl, rfl⟩ := hp9
  simp only [List.cons_append, List.nil_append, List.append_nil] at N9 U9
  unfold Under at U9
  have k2 : @LT.lt Nat _ (LL + 1 + 1) c2 := Nat.lt_trans (U9 (LL + 1 + 1, o1) (by (with_reducible repeat' first | exact List.mem_cons_self .. | refine List.mem_cons_of_mem _ ?_))) lt9
  have k3 : @LT.lt Nat _ (LL + 1) c2 := Nat.lt_of_succ_lt k2
  have k4 : @LT.lt Nat _ LL c2 := Nat.lt_of_succ_lt k3
  have k5 : @LT.lt Nat _ 47 c2 := Nat.lt_trans h47 k4
  have k6 : @LT.lt Nat _ P c2 := Nat.lt_trans hP k4
  have k7 : @LT.lt Nat _ 54 c2 := Nat.lt_trans h54 k4
  clear U9 lN2
  replace N9 : News gg LL _ ((LL + 1 + 1, o1) :: (LL + 1, oh) :: (47, tabObj #[]) :: (54, tab54 c2) :: (c2, oc2) :: (P, oP) :: []) := cb_drop N9 (by ki_room)
  try dsimp only
  (repeat' (first | (k_unfold; (try dsimp only)) | ((fail_if_success (with_reducible first | show wpAny _ _ (PySem.call (Value.ref _) _) _ _ _ | show wpAny _ _ (pyIter (Value.ref _)) _ _ _ | show wpAny _ _ (exec (Stmt.For _ _ _ _ _) _) _ _ _ | show LCg.CompSrc _ _ _ _ _ _ _ _ _ _ _ _ _ _ | show LCg.CompEnd _ _ _ _ _ _ _ _ _ _ _ _ _ _ | show wpAny _ _ (eval (Expr.ListComp _ _ _ _) _) _ _ _ | show wpAny _ _ (eval (Expr.DictComp _ _ _ _ _) _) _ _ _ | show wpAny _ _ (exec (Stmt.Assign _ (Expr.ListComp _ _ _ _) _) _) _ _ _ | show wpAny _ _ (exec (Stmt.Assign _ (Expr.DictComp _ _ _ _ _) _) _) _ _ _ | show _ ≤ _)); (first | walk1 | (dsimp only; walk1)) <;> (try dsimp only)) | (leave1; try dsimp only) | fail "no step"))
  have hfig : dv + undig n [hf, hf, hf, hf, hf, hf, hf, hf] = undig n (figL hf cc) := by rw [fig_eq, hdv]
  obtain ⟨f1, f2, f3, f4⟩ := fig_all (h := hf) hg hn hhf
  (k_dflt (refine' Ok.use ?k1n42 ?k2n42 ?k3n42 ?k4n42 ?k5n42 ?kKn42 ?kCn42 (i2d_miss (n := n) (M := 9) (by rw [hfig]; exact f2) (Nat.le_trans (by decide) hn) (Nat.le_trans hn2 (by decide)) (by rw [hfig]; exact f3) (by decide) (by decide)) ?kPn42 ?kapn42 ?kdn42 ?kun42 ?_); (case k1n42 | k2n42 | k3n42 | k4n42 | k5n42 => k_asm); (case kKn42 => exact rfl); (case kCn42 => assumption); (case kPn42 => (repeat' first | exact Picks.nil | (with_reducible exact Pick.head) | apply Picks.cons | apply Pick.tail)); (case kapn42 => (k_whole; unfold Apart; repeat' (first | exact List.forall_mem_nil _ | (refine List.forall_mem_cons.mpr ⟨?_, ?_⟩) | k_ne))); (case kdn42 => (first | exact room1 (by assumption) rfl | exact room0 (by assumption) | ktr_room)); (case kun42 => (first | exact units1 (by assumption) rfl | ktr_units)))
  intro b8 r8 n8 h8 tk8 U8 F8 N8 hp8
  obtain ⟨c1, oc1, lG, vG, lt8, lt7, ne8, hc1, hv8, rfl, rfl⟩ := hp8
  rw [hfig, f4] at hv8
  have hv8' := hv8
  unfold figL at hv8
  obtain ⟨ft0, ft1, ft2, ft3, ft4, ft5, ft6, ft7, ft8, rfl⟩ := ints9 hv8
  simp only [List.cons_append, List.nil_append, List.append_nil] at N8 U8
  unfold Under at U8
  have k1 : @LT.lt Nat _ c2 c1 := Nat.lt_trans (U8 (c2, oc2) (by (with_reducible repeat' first | exact List.mem_cons_self .. | refine List.mem_cons_of_mem _ ?_))) lt8
  have j1 : @LT.lt Nat _ (LL + 1 + 1) lG := Nat.lt_trans (U8 (LL + 1 + 1, o1) (by (with_reducible repeat' first | exact List.mem_cons_self .. | refine List.mem_cons_of_mem _ ?_))) lt7
  have j3 : @LT.lt Nat _ c2 lG := Nat.lt_trans (U8 (c2, oc2) (by (with_reducible repeat' first | exact List.mem_cons_self .. | refine List.mem_cons_of_mem _ ?_))) lt7
  have j2 : @LT.lt Nat _ (LL + 1 + 1) c1 := Nat.lt_trans k2 k1
  clear U8
  try dsimp only
  (repeat' (first | (k_unfold; (try dsimp only)) | ((fail_if_success (with_reducible first | show wpAny _ _ (PySem.call (Value.ref _) _) _ _ _ | show wpAny _ _ (pyIter (Value.ref _)) _ _ _ | show wpAny _ _ (exec (Stmt.For _ _ _ _ _) _) _ _ _ | show LCg.CompSrc _ _ _ _ _ _ _ _ _ _ _ _ _ _ | show LCg.CompEnd _ _ _ _ _ _ _ _ _ _ _ _ _ _ | show wpAny _ _ (eval (Expr.ListComp _ _ _ _) _) _ _ _ | show wpAny _ _ (eval (Expr.DictComp _ _ _ _ _) _) _ _ _ | show wpAny _ _ (exec (Stmt.Assign _ (Expr.ListComp _ _ _ _) _) _) _ _ _ | show wpAny _ _ (exec (Stmt.Assign _ (Expr.DictComp _ _ _ _ _) _) _) _ _ _ | show _ ≤ _)); (first | walk1 | (dsimp only; walk1)) <;> (try dsimp only)) | (leave1; try dsimp only) | fail "no step"))
  try dsimp only
  exact ret _ _ c1 oc1 c2 oc2 lG _ _ k2 k1 j3 hc1 hc2 (by assumption) hv8' (by k_asm) (cb_drop (by k_asm) (by ki_room))
end
end
theorem offLDd : True := by
  w_top off
  exact True.intro
section
open PySem PySem.W PySem.Spec PySem.Calls PyProof.Rows
section
variable {w : World} {p : Program} {loose : List PySem.Str} {mean : ExcName → Option Value} {mg mb : PySem.Str → Option Value}
set_option maxHeartbeats 4000000 in
theorem ldSlope {stm rest : List Stmt} {scope : Scope} (hb : (stm, scope) = (((topFn 26).1.drop 11).take 1, (topFn 26).2))
    {dp un : Nat} {gd : Option (List Code)} {cn : PySem.Str} {cs : Scope} {L fa LL : Addr} {ccd : Value} {cl : List (PySem.Str × Addr)} {outer : List Env} {base gg : Heap} {m : PySem.Str → Option Value} {s : Shared} {E : Value → Shared → Prop} {Q : Flow → Shared → Prop} (BB : Below (ktrTop dp un gd cn cs L fa ccd cl outer) base (envX cn cs L fa ccd cl :: outer) gg) (XX : (Mine.hd.heap_1 w.params).In gg) (TT : Top p loose mean mg mb gg) (hC : Codes base) (hd : dp + 200 < recursionLimit) (hu : un + 8 * 200 < cLine)
    {oh oc1 oc2 oP : Obj} {P c1 c2 : Addr} {n : Nat} {hf : Int} {th : Tok} {cc : C8} {pp : P5} {oF : Obj} {q dv : Int} {lG : Addr} {vG : List Value} {tq tv tw : Tok} (h47 : @LT.lt Nat _ 47 LL) (h54 : @LT.lt Nat _ 54 LL) (hP : @LT.lt Nat _ P LL) (dP1 : @Ne Nat 47 P) (dP2 : @Ne Nat 54 P) (k3 : @LT.lt Nat _ (LL + 1) c2) (k1 : @LT.lt Nat _ c2 c1) (hc1 : CodeAt q47 oc1) (hc2 : CodeAt q54 oc2) (dh : oh.data = .cell (some (.int hf th))) (hn : 32 ≤ n) (hn2 : n ≤ 1000) (hg : Good cc pp) (hhf : 2 ^ n = 2 * hf) (hfB : Builtin.Int.intBits hf ≤ 20000) (F : Fr gg LL s.heap fun y => if y = "divisor" then some (.int dv tv) else if y = "q" then some (.int q tq) else if y = "width" then some (.int (n : Int) tw) else m y)
    (N : News gg LL s.heap ((LL + 1 + 1, oF) :: (LL + 1, oh) :: (lG, lstO vG) :: (47, tab47 c1) :: (c1, oc1) :: (54, tab54 c2) :: (c2, oc2) :: (P, oP) :: []))
    (j0 : @LT.lt Nat _ (LL + 1 + 1) c2) (j3 : @LT.lt Nat _ c2 lG) (hF : oF.data = .cell (some (.ref lG))) (hv : IntsAre vG (figL hf cc))
    (ret : ∀ h' tk tl', Fr gg LL h' (fun y => if y = "slope" then some (.int (undig n (slopeL hf cc)) tl') else if y = "divisor" then some (.int dv tv) else if y = "q" then some (.int q tq) else if y = "width" then some (.int (n : Int) tw) else m y) → News gg LL h' ((LL + 1, oh) :: (47, tab47 c1) :: (c1, oc1) :: (54, tab54 c2) :: (c2, oc2) :: (P, oP) :: []) →
      wpAny (model PySem.Challenge.rw_wy0040_01.row.toRowW.prog w) ((ktrTop dp un gd cn cs L fa ccd cl outer).deeper (envOfC "_law_divided" scope LL 276 (.ref 275))) (execs rest (envOfC "_law_divided" scope LL 276 (.ref 275))) Q E { s with heap := h', toks := tk }) :
    wpAny (model PySem.Challenge.rw_wy0040_01.row.toRowW.prog w) ((ktrTop dp un gd cn cs L fa ccd cl outer).deeper (envOfC "_law_divided" scope LL 276 (.ref 275))) (execs (stm ++ rest) (envOfC "_law_divided" scope LL 276 (.ref 275))) Q E s := by
  conv at hb => {rhs; arg 1; whnf}
  conv at hb => {rhs; arg 2; whnf}
  simp only [Prod.mk.injEq] at hb
  obtain ⟨rfl, rfl⟩ := hb
  revert XX
  k_fill
  intro XX
  simp only [List.take_succ_cons, List.take_zero, List.cons_append, List.nil_append]
  try dsimp only
  have a1 : @LT.lt Nat _ 54 (LL + 1) := Nat.lt_succ_of_lt h54
  have a3 : @LT.lt Nat _ 47 (LL + 1) := Nat.lt_succ_of_lt h47
  have a5 : @Ne Nat 47 54 := by decide
  have a6 : @LT.lt Nat _ P (LL + 1) := Nat.lt_succ_of_lt hP
  have k4 : @LT.lt Nat _ LL c2 := Nat.lt_of_succ_lt k3
  have k5 : @LT.lt Nat _ 47 c2 := Nat.lt_trans h47 k4
  have k6 : @LT.lt Nat _ P c2 := Nat.lt_trans hP k4
  have k7 : @LT.lt Nat _ 54 c2 := Nat.lt_trans h54 k4
  have k8 : @LT.lt Nat _ 47 c1 := Nat.lt_trans k5 k1
  have k9 : @LT.lt Nat _ P c1 := Nat.lt_trans k6 k1
  have l5 : @LT.lt Nat _ 54 c1 := Nat.lt_trans k7 k1
  have l6 : @LT.lt Nat _ (LL + 1) c1 := Nat.lt_trans k3 k1
  have j1 : @LT.lt Nat _ 54 lG := Nat.lt_trans k7 j3
  have p1 : @LT.lt Nat _ 54 (LL + 1 + 1) := Nat.lt_succ_of_lt a1
  (repeat' (first | (k_unfold; (try dsimp only)) | ((fail_if_success (with_reducible first | show wpAny _ _ (PySem.call (Value.ref _) _) _ _ _ | show wpAny _ _ (pyIter (Value.ref _)) _ _ _ | show wpAny _ _ (exec (Stmt.For _ _ _ _ _) _) _ _ _ | show LCg.CompSrc _ _ _ _ _ _ _ _ _ _ _ _ _ _ | show LCg.CompEnd _ _ _ _ _ _ _ _ _ _ _ _ _ _ | show wpAny _ _ (eval (Expr.ListComp _ _ _ _) _) _ _ _ | show wpAny _ _ (eval (Expr.DictComp _ _ _ _ _) _) _ _ _ | show wpAny _ _ (exec (Stmt.Assign _ (Expr.ListComp _ _ _ _) _) _) _ _ _ | show wpAny _ _ (exec (Stmt.Assign _ (Expr.DictComp _ _ _ _ _) _) _) _ _ _ | show _ ≤ _)); (first | walk1 | (dsimp only; walk1)) <;> (try dsimp only)) | (leave1; try dsimp only) | fail "no step"))
  (rename Fr _ _ _ _ => lF5); (rename News _ _ _ _ => lN5)
  refine' LCg.ListComp_U lF5 ?q1 ?q2 ?q3 ?q4 ?q5 ?q6
  case q1 => exact rfl
  case q2 => decide
  case q3 => exact rfl
  case q4 => decide
  case q5 => exact rfl
  (repeat' (first | (k_unfold; (try dsimp only)) | ((fail_if_success (with_reducible first | show wpAny _ _ (PySem.call (Value.ref _) _) _ _ _ | show wpAny _ _ (pyIter (Value.ref _)) _ _ _ | show wpAny _ _ (exec (Stmt.For _ _ _ _ _) _) _ _ _ | show LCg.CompSrc _ _ _ _ _ _ _ _ _ _ _ _ _ _ | show LCg.CompEnd _ _ _ _ _ _ _ _ _ _ _ _ _ _ | show wpAny _ _ (eval (Expr.ListComp _ _ _ _) _) _ _ _ | show wpAny _ _ (eval (Expr.DictComp _ _ _ _ _) _) _ _ _ | show wpAny _ _ (exec (Stmt.Assign _ (Expr.ListComp _ _ _ _) _) _) _ _ _ | show wpAny _ _ (exec (Stmt.Assign _ (Expr.DictComp _ _ _ _ _) _) _) _ _ _ | show _ ≤ _)); (first | walk1 | (dsimp only; walk1)) <;> (try dsimp only)) | (leave1; try dsimp only) | fail "no step"))
  (rename IsRange _ _ _ _ _ _ _ _ => lR6); (rename Fr _ _ _ _ => lF6); (rename News _ _ _ _ => lN6)
  have lN7 := cb_drop (news := (LL + 1 + 1, oF) :: (LL + 1, oh) :: (lG, lstO vG) :: (47, tab47 c1) :: (c1, oc1) :: (54, tab54 c2) :: (c2, oc2) :: (P, oP) :: []) lN6 (by ki_room)
  refine LCg.CompSrc.range (n := 9) (by rfl) lF6 lN7 lR6 (by decide) (by decide) (by decide) (fun g6 => ?_)
  refine comp_ind (n := 9) (fun i ys news => IntsAre ys ((slopeL hf cc).take i) ∧ news = (LL + 1 + 1, oF) :: (LL + 1, oh) :: (lG, lstO vG) :: (47, tab47 c1) :: (c1, oc1) :: (54, tab54 c2) :: (c2, oc2) :: (P, oP) :: []) ?ci0 ?ci1 _ _ _ _ (by decide) ⟨.nil, rfl⟩
  case ci1 =>
    clear lF6 lN7 lN6 lR6 ret
    rintro i ys news hi ⟨hys, rfl⟩ v I1 oI C oC DD m2 h1 tk1 E1 ⟨tj, rfl⟩ hCo hxj F1 N1 off1 ne1
    have hi8 : Builtin.Int.intBits (8 - (0 + (i : Int))) ≤ 64 := intBits_le_64 (by (first | lia | omega)) (by (first | lia | omega))
    have hfk := figL_bits hg hn hn2 hhf (0 + (i : Int)).toNat
    (repeat' (first | (k_unfold; (try dsimp only)) | ((fail_if_success (with_reducible first | show wpAny _ _ (PySem.call (Value.ref _) _) _ _ _ | show wpAny _ _ (pyIter (Value.ref _)) _ _ _ | show wpAny _ _ (exec (Stmt.For _ _ _ _ _) _) _ _ _ | show wpAny _ _ (subscriptTail _ _ _ _) _ _ _ | show DEnd _ _ _ _ _ _ _ _ _ _ _ _ _ _ | show wpAny _ _ (setItem _ _ _) _ _ _ | show wpAny _ _ (getItem _ _) _ _ _ | show LCg.CompSrc _ _ _ _ _ _ _ _ _ _ _ _ _ _ | show LCg.CompEnd _ _ _ _ _ _ _ _ _ _ _ _ _ _ | show wpAny _ _ (eval (Expr.ListComp _ _ _ _) _) _ _ _ | show wpAny _ _ (eval (Expr.DictComp _ _ _ _ _) _) _ _ _ | show wpAny _ _ (exec (Stmt.Assign _ (Expr.ListComp _ _ _ _) _) _) _ _ _ | show wpAny _ _ (exec (Stmt.Assign _ (Expr.DictComp _ _ _ _ _) _) _) _ _ _ | show _ ≤ _)); (first | walk1 | (dsimp only; walk1)) <;> (try dsimp only)) | (leave1; try dsimp only) | fail "no step"))
    (rename News _ _ _ _ => lN8)
    refine item_anyK (isL lN8 (by (with_reducible repeat' first | exact List.mem_cons_self .. | refine List.mem_cons_of_mem _ ?_))) hv (by (first | lia | omega)) (by simp only [figL, List.length_cons, List.length_nil]; (first | lia | omega)) (by (first | lia | omega)) ?_ (by with_unfolding_all rfl)
    intro tt
    (repeat' (first | (k_unfold; (try dsimp only)) | ((fail_if_success (with_reducible first | show wpAny _ _ (PySem.call (Value.ref _) _) _ _ _ | show wpAny _ _ (pyIter (Value.ref _)) _ _ _ | show wpAny _ _ (exec (Stmt.For _ _ _ _ _) _) _ _ _ | show wpAny _ _ (subscriptTail _ _ _ _) _ _ _ | show DEnd _ _ _ _ _ _ _ _ _ _ _ _ _ _ | show wpAny _ _ (setItem _ _ _) _ _ _ | show wpAny _ _ (getItem _ _) _ _ _ | show LCg.CompSrc _ _ _ _ _ _ _ _ _ _ _ _ _ _ | show LCg.CompEnd _ _ _ _ _ _ _ _ _ _ _ _ _ _ | show wpAny _ _ (eval (Expr.ListComp _ _ _ _) _) _ _ _ | show wpAny _ _ (eval (Expr.DictComp _ _ _ _ _) _) _ _ _ | show wpAny _ _ (exec (Stmt.Assign _ (Expr.ListComp _ _ _ _) _) _) _ _ _ | show wpAny _ _ (exec (Stmt.Assign _ (Expr.DictComp _ _ _ _ _) _) _) _ _ _ | show _ ≤ _)); (first | walk1 | (dsimp only; walk1)) <;> (try dsimp only)) | (leave1; try dsimp only) | fail "no step"))
    (rename Fr _ _ _ _ => lF9); (rename News _ _ _ _ => lN9)
    exact LCg.CompEnd.intro lF9 lN9 _ (by (with_reducible repeat' first | exact List.forall_mem_nil _ | refine List.forall_mem_cons.mpr ⟨?_, ?_⟩ | exact List.mem_cons_self .. | refine List.mem_cons_of_mem _ ?_)) off1 trivial ⟨by rw [slope_snoc _ _ hi]; exact intsAre_snoc hys _ _, rfl⟩
  case ci0 =>
    clear lF6 lN7 lN6 lR6
    rintro ys news ⟨hys, rfl⟩
    rw [show (slopeL hf cc).take 9 = slopeL hf cc from rfl] at hys
    intro DS h1 tk1 F1 N1 o1
    obtain ⟨v1, v2, v3, v4, v5, v6, v7, v8, _⟩ := o1
    (repeat' (first | (k_unfold; (try dsimp only)) | ((fail_if_success (with_reducible first | show wpAny _ _ (PySem.call (Value.ref _) _) _ _ _ | show wpAny _ _ (pyIter (Value.ref _)) _ _ _ | show wpAny _ _ (exec (Stmt.For _ _ _ _ _) _) _ _ _ | show LCg.CompSrc _ _ _ _ _ _ _ _ _ _ _ _ _ _ | show LCg.CompEnd _ _ _ _ _ _ _ _ _ _ _ _ _ _ | show wpAny _ _ (eval (Expr.ListComp _ _ _ _) _) _ _ _ | show wpAny _ _ (eval (Expr.DictComp _ _ _ _ _) _) _ _ _ | show wpAny _ _ (exec (Stmt.Assign _ (Expr.ListComp _ _ _ _) _) _) _ _ _ | show wpAny _ _ (exec (Stmt.Assign _ (Expr.DictComp _ _ _ _ _) _) _) _ _ _ | show _ ≤ _)); (first | walk1 | (dsimp only; walk1)) <;> (try dsimp only)) | (leave1; try dsimp only) | fail "no step"))
    have hsB := slopeL_bits (h := hf) hg
    trace_state
    (k_dflt (refine' Ok.use ?k1n43 ?k2n43 ?k3n43 ?k4n43 ?k5n43 ?kKn43 ?kCn43 (d2i_hit (c := c2) (l := DS) (ds := slopeL hf cc) (n := n) hc2 k7 (by assumption) hys (by simp [slopeL]) (Nat.le_trans hn2 (by decide)) (fun d hd => Nat.le_trans (hsB d hd) (by decide)) (by simp [slopeL])) ?kPn43 ?kapn43 ?kdn43 ?kun43 ?_); (case k1n43 | k2n43 | k3n43 | k4n43 | k5n43 => k_asm); (case kKn43 => exact rfl); (case kCn43 => assumption); (case kPn43 => (repeat' first | exact Picks.nil | (with_reducible exact Pick.head) | apply Picks.cons | apply Pick.tail)); (case kapn43 => (k_whole; unfold Apart; repeat' (first | exact List.forall_mem_nil _ | (refine List.forall_mem_cons.mpr ⟨?_, ?_⟩) | k_ne))); (case kdn43 => (first | exact room1 (by assumption) rfl | exact room0 (by assumption) | ktr_room)); (case kun43 => (first | exact units1 (by assumption) rfl | ktr_units)))
    intro b7 r7 n7 h7 tk7 U7 F7 N7 hp7
    obtain ⟨t7', rfl, rfl⟩ := hp7
    simp only [List.cons_append, List.nil_append, List.append_nil] at N7
    clear U7
    try dsimp only
    (repeat' (first | (k_unfold; (try dsimp only)) | ((fail_if_success (with_reducible first | show wpAny _ _ (PySem.call (Value.ref _) _) _ _ _ | show wpAny _ _ (pyIter (Value.ref _)) _ _ _ | show wpAny _ _ (exec (Stmt.For _ _ _ _ _) _) _ _ _ | show LCg.CompSrc _ _ _ _ _ _ _ _ _ _ _ _ _ _ | show LCg.CompEnd _ _ _ _ _ _ _ _ _ _ _ _ _ _ | show wpAny _ _ (eval (Expr.ListComp _ _ _ _) _) _ _ _ | show wpAny _ _ (eval (Expr.DictComp _ _ _ _ _) _) _ _ _ | show wpAny _ _ (exec (Stmt.Assign _ (Expr.ListComp _ _ _ _) _) _) _ _ _ | show wpAny _ _ (exec (Stmt.Assign _ (Expr.DictComp _ _ _ _ _) _) _) _ _ _ | show _ ≤ _)); (first | walk1 | (dsimp only; walk1)) <;> (try dsimp only)) | (leave1; try dsimp only) | fail "no step"))
    try dsimp only
    exact ret _ _ _ (by k_asm) (cb_drop (by k_asm) (by ki_room))
end
end
section
open PySem PySem.W PySem.Spec PySem.Calls PyProof.Rows
local macro_rules | `(tactic| walk_at "binaryOp Pow int int") => `(tactic| (refine powX (by decide) (by ktr_rel) (by decide) ?_))
theorem offLDe : True := by
  w_top off
  exact True.intro
section
open PySem PySem.W PySem.Spec PySem.Calls PyProof.Rows
section
variable {w : World} {p : Program} {loose : List PySem.Str} {mean : ExcName → Option Value} {mg mb : PySem.Str → Option Value}
set_option maxHeartbeats 4000000 in
theorem ldWhole {stm rest : List Stmt} {scope : Scope} (hb : (stm, scope) = (((topFn 26).1.drop 12).take 1, (topFn 26).2))
    {dp un : Nat} {gd : Option (List Code)} {cn : PySem.Str} {cs : Scope} {L fa LL : Addr} {ccd : Value} {cl : List (PySem.Str × Addr)} {outer : List Env} {base gg : Heap} {m : PySem.Str → Option Value} {s : Shared} {E : Value → Shared → Prop} {Q : Flow → Shared → Prop} (BB : Below (ktrTop dp un gd cn cs L fa ccd cl outer) base (envX cn cs L fa ccd cl :: outer) gg) (XX : (Mine.hd.heap_1 w.params).In gg) (TT : Top p loose mean mg mb gg) (hC : Codes base) (hd : dp + 200 < recursionLimit) (hu : un + 8 * 200 < cLine)
    {oh oc1 oc2 oP : Obj} {P c1 c2 : Addr} {n : Nat} {hf : Int} {th : Tok} {cc : C8} {pp : P5} {q dv sl : Int} {tq tv tw tl' : Tok} (h47 : @LT.lt Nat _ 47 LL) (h54 : @LT.lt Nat _ 54 LL) (hP : @LT.lt Nat _ P LL) (dP1 : @Ne Nat 47 P) (dP2 : @Ne Nat 54 P) (k3 : @LT.lt Nat _ (LL + 1) c2) (k1 : @LT.lt Nat _ c2 c1) (hc1 : CodeAt q47 oc1) (hc2 : CodeAt q54 oc2) (dh : oh.data = .cell (some (.int hf th))) (hn : 32 ≤ n) (hn2 : n ≤ 1000) (hg : Good cc pp) (hhf : 2 ^ n = 2 * hf) (hfB : Builtin.Int.intBits hf ≤ 20000) (F : Fr gg LL s.heap fun y => if y = "slope" then some (.int sl tl') else if y = "divisor" then some (.int dv tv) else if y = "q" then some (.int q tq) else if y = "width" then some (.int (n : Int) tw) else m y)
    (N : News gg LL s.heap ((LL + 1, oh) :: (47, tab47 c1) :: (c1, oc1) :: (54, tab54 c2) :: (c2, oc2) :: (P, oP) :: []))
    (hq2 : q = 2 ^ n) (hq : Builtin.Int.intBits q ≤ 1001) (hslb : Builtin.Int.intBits sl ≤ 10000) (hDb : Builtin.Int.intBits dv ≤ 9000)
    (ret : ∀ h' tk twh (m' : PySem.Str → Option Value) wh, wh = sl * q ^ 5 + dv * undig n [hf, hf, hf, hf, hf] + dv.fdiv 2 → Fr gg LL h' (fun y => if y = "whole" then some (.int wh twh) else if y = "divisor" then some (.int dv tv) else if y = "q" then some (.int q tq) else if y = "width" then some (.int (n : Int) tw) else m' y) → News gg LL h' ((LL + 1, oh) :: (47, tab47 c1) :: (c1, oc1) :: (54, tab54 c2) :: (c2, oc2) :: (P, oP) :: []) →
      wpAny (model PySem.Challenge.rw_wy0040_01.row.toRowW.prog w) ((ktrTop dp un gd cn cs L fa ccd cl outer).deeper (envOfC "_law_divided" scope LL 276 (.ref 275))) (execs rest (envOfC "_law_divided" scope LL 276 (.ref 275))) Q E { s with heap := h', toks := tk }) :
    wpAny (model PySem.Challenge.rw_wy0040_01.row.toRowW.prog w) ((ktrTop dp un gd cn cs L fa ccd cl outer).deeper (envOfC "_law_divided" scope LL 276 (.ref 275))) (execs (stm ++ rest) (envOfC "_law_divided" scope LL 276 (.ref 275))) Q E s := by
  conv at hb => {rhs; arg 1; whnf}
  conv at hb => {rhs; arg 2; whnf}
  simp only [Prod.mk.injEq] at hb
  obtain ⟨rfl, rfl⟩ := hb
  revert XX
  k_fill
  intro XX
  simp only [List.take_succ_cons, List.take_zero, List.cons_append, List.nil_append]
  try dsimp only
  have a1 : @LT.lt Nat _ 54 (LL + 1) := Nat.lt_succ_of_lt h54
  have a3 : @LT.lt Nat _ 47 (LL + 1) := Nat.lt_succ_of_lt h47
  have a5 : @Ne Nat 47 54 := by decide
  have a6 : @LT.lt Nat _ P (LL + 1) := Nat.lt_succ_of_lt hP
  have k4 : @LT.lt Nat _ LL c2 := Nat.lt_of_succ_lt k3
  have k5 : @LT.lt Nat _ 47 c2 := Nat.lt_trans h47 k4
  have k6 : @LT.lt Nat _ P c2 := Nat.lt_trans hP k4
  have k7 : @LT.lt Nat _ 54 c2 := Nat.lt_trans h54 k4
  have k8 : @LT.lt Nat _ 47 c1 := Nat.lt_trans k5 k1
  have k9 : @LT.lt Nat _ P c1 := Nat.lt_trans k6 k1
  have l5 : @LT.lt Nat _ 54 c1 := Nat.lt_trans k7 k1
  have l6 : @LT.lt Nat _ (LL + 1) c1 := Nat.lt_trans k3 k1
  have hq5 : Builtin.Int.intBits (q ^ (5 : Int).toNat) ≤ 5001 := pow_bits hq2 hn2 5
  (repeat' (first | (k_unfold; (try dsimp only)) | ((fail_if_success (with_reducible first | show wpAny _ _ (PySem.call (Value.ref _) _) _ _ _ | show wpAny _ _ (pyIter (Value.ref _)) _ _ _ | show wpAny _ _ (exec (Stmt.For _ _ _ _ _) _) _ _ _ | show LCg.CompSrc _ _ _ _ _ _ _ _ _ _ _ _ _ _ | show LCg.CompEnd _ _ _ _ _ _ _ _ _ _ _ _ _ _ | show wpAny _ _ (eval (Expr.ListComp _ _ _ _) _) _ _ _ | show wpAny _ _ (eval (Expr.DictComp _ _ _ _ _) _) _ _ _ | show wpAny _ _ (exec (Stmt.Assign _ (Expr.ListComp _ _ _ _) _) _) _ _ _ | show wpAny _ _ (exec (Stmt.Assign _ (Expr.DictComp _ _ _ _ _) _) _) _ _ _ | show _ ≤ _)); (first | walk1 | (dsimp only; walk1)) <;> (try dsimp only)) | (leave1; try dsimp only) | fail "no step"))
  (rename Fr _ _ _ _ => lFa); (rename News _ _ _ _ => lNa)
  obtain ⟨DA, e⟩ := nmA0 lNa; subst e
  replace lNa : News gg LL _ ((DA, lstC [.int hf th, .int hf th, .int hf th, .int hf th, .int hf th] 0) :: (_ : Led)) := lNa
  replace lNa : News gg LL _ ((DA, lstC [.int hf th, .int hf th, .int hf th, .int hf th, .int hf th] 0) :: (LL + 1, oh) :: (47, tab47 c1) :: (c1, oc1) :: (54, tab54 c2) :: (c2, oc2) :: (P, oP) :: []) := cb_drop lNa (by ki_room)
  (k_dflt (refine' Ok.use ?k1n44 ?k2n44 ?k3n44 ?k4n44 ?k5n44 ?kKn44 ?kCn44 (d2i_hit (c := c2) (l := DA) (cp := 0) (ds := [hf, hf, hf, hf, hf]) (n := n) hc2 k7 (Nat.ne_of_lt (by assumption)) (.cons _ _ (.cons _ _ (.cons _ _ (.cons _ _ (.cons _ _ .nil))))) (by simp) (Nat.le_trans hn2 (by decide)) (by simp [hfB]) (by simp)) ?kPn44 ?kapn44 ?kdn44 ?kun44 ?_); (case k1n44 | k2n44 | k3n44 | k4n44 | k5n44 => k_asm); (case kKn44 => exact rfl); (case kCn44 => assumption); (case kPn44 => (repeat' first | exact Picks.nil | (with_reducible exact Pick.head) | apply Picks.cons | apply Pick.tail)); (case kapn44 => (k_whole; unfold Apart; repeat' (first | exact List.forall_mem_nil _ | (refine List.forall_mem_cons.mpr ⟨?_, ?_⟩) | k_ne))); (case kdn44 => (first | exact room1 (by assumption) rfl | exact room0 (by assumption) | ktr_room)); (case kun44 => (first | exact units1 (by assumption) rfl | ktr_units)))
  intro b6 r6 n6 h6 tk6' U6 F6 N6 hp6
  obtain ⟨t6', rfl, rfl⟩ := hp6
  simp only [List.cons_append, List.nil_append, List.append_nil] at N6
  clear U6
  try dsimp only
  have hhb : Builtin.Int.intBits (undig n [hf, hf, hf, hf, hf]) ≤ 30000 := Nat.le_trans (undig_bits (B := 20000) _ (by simp [hfB])) (by simp; (first | lia | omega))
  (repeat' (first | (k_unfold; (try dsimp only)) | ((fail_if_success (with_reducible first | show wpAny _ _ (PySem.call (Value.ref _) _) _ _ _ | show wpAny _ _ (pyIter (Value.ref _)) _ _ _ | show wpAny _ _ (exec (Stmt.For _ _ _ _ _) _) _ _ _ | show LCg.CompSrc _ _ _ _ _ _ _ _ _ _ _ _ _ _ | show LCg.CompEnd _ _ _ _ _ _ _ _ _ _ _ _ _ _ | show wpAny _ _ (eval (Expr.ListComp _ _ _ _) _) _ _ _ | show wpAny _ _ (eval (Expr.DictComp _ _ _ _ _) _) _ _ _ | show wpAny _ _ (exec (Stmt.Assign _ (Expr.ListComp _ _ _ _) _) _) _ _ _ | show wpAny _ _ (exec (Stmt.Assign _ (Expr.DictComp _ _ _ _ _) _) _) _ _ _ | show _ ≤ _)); (first | walk1 | (dsimp only; walk1)) <;> (try dsimp only)) | (leave1; try dsimp only) | fail "no step"))
  try dsimp only
  exact ret _ _ _ _ _ rfl (see4 (by k_asm) rfl rfl rfl rfl) (cb_drop (by k_asm) (by ki_room))
end
end
theorem offLDf : True := by
  w_top off
  exact True.intro
section
open PySem PySem.W PySem.Spec PySem.Calls PyProof.Rows
section
variable {w : World} {p : Program} {loose : List PySem.Str} {mean : ExcName → Option Value} {mg mb : PySem.Str → Option Value}
set_option maxHeartbeats 4000000 in
theorem ldTold {stm rest : List Stmt} {scope : Scope} (hb : (stm, scope) = (((topFn 26).1.drop 13).take 3, (topFn 26).2))
    {dp un : Nat} {gd : Option (List Code)} {cn : PySem.Str} {cs : Scope} {L fa LL : Addr} {ccd : Value} {cl : List (PySem.Str × Addr)} {outer : List Env} {base gg : Heap} {m : PySem.Str → Option Value} {s : Shared} {E : Value → Shared → Prop} {Q : Flow → Shared → Prop} (BB : Below (ktrTop dp un gd cn cs L fa ccd cl outer) base (envX cn cs L fa ccd cl :: outer) gg) (XX : (Mine.hd.heap_1 w.params).In gg) (TT : Top p loose mean mg mb gg) (hC : Codes base) (hd : dp + 200 < recursionLimit) (hu : un + 8 * 200 < cLine)
    {oh oc1 oc2 oP : Obj} {P c1 c2 : Addr} {n : Nat} {hf : Int} {th : Tok} {cc : C8} {pp : P5} {q dv wh : Int} {tq tv tw twh : Tok} (h47 : @LT.lt Nat _ 47 LL) (h54 : @LT.lt Nat _ 54 LL) (hP : @LT.lt Nat _ P LL) (dP1 : @Ne Nat 47 P) (dP2 : @Ne Nat 54 P) (k3 : @LT.lt Nat _ (LL + 1) c2) (k1 : @LT.lt Nat _ c2 c1) (hc1 : CodeAt q47 oc1) (hc2 : CodeAt q54 oc2) (dh : oh.data = .cell (some (.int hf th))) (hn : 32 ≤ n) (hn2 : n ≤ 1000) (hg : Good cc pp) (hhf : 2 ^ n = 2 * hf) (hfB : Builtin.Int.intBits hf ≤ 20000) (F : Fr gg LL s.heap fun y => if y = "whole" then some (.int wh twh) else if y = "divisor" then some (.int dv tv) else if y = "q" then some (.int q tq) else if y = "width" then some (.int (n : Int) tw) else m y)
    (N : News gg LL s.heap ((LL + 1, oh) :: (47, tab47 c1) :: (c1, oc1) :: (54, tab54 c2) :: (c2, oc2) :: (P, oP) :: []))
    (hq2 : q = 2 ^ n) (hq : Builtin.Int.intBits q ≤ 1001) (hdv : dv = hor (2 ^ n) cc) (hw : wh = wholeOf n hf cc)
    (ret : ∀ h' tk tto rm trm ha tha ti tti (m' : PySem.Str → Option Value), undig n (toldL hf pp) * dv + rm = wh → ha = q ^ 8 + q ^ 4 - 1 → ti = 2 * q ^ 15 - (q ^ 4).fdiv 2 → Fr gg LL h' (fun y => if y = "told" then some (.int (undig n (toldL hf pp)) tto) else if y = "rest" then some (.int rm trm) else if y = "hard" then some (.int ha tha) else if y = "times" then some (.int ti tti) else if y = "whole" then some (.int wh twh) else if y = "divisor" then some (.int dv tv) else if y = "q" then some (.int q tq) else if y = "width" then some (.int (n : Int) tw) else m' y) → News gg LL h' ((LL + 1, oh) :: (47, tab47 c1) :: (c1, oc1) :: (54, tab54 c2) :: (c2, oc2) :: (P, oP) :: []) →
      wpAny (model PySem.Challenge.rw_wy0040_01.row.toRowW.prog w) ((ktrTop dp un gd cn cs L fa ccd cl outer).deeper (envOfC "_law_divided" scope LL 276 (.ref 275))) (execs rest (envOfC "_law_divided" scope LL 276 (.ref 275))) Q E { s with heap := h', toks := tk }) :
    wpAny (model PySem.Challenge.rw_wy0040_01.row.toRowW.prog w) ((ktrTop dp un gd cn cs L fa ccd cl outer).deeper (envOfC "_law_divided" scope LL 276 (.ref 275))) (execs (stm ++ rest) (envOfC "_law_divided" scope LL 276 (.ref 275))) Q E s := by
  conv at hb => {rhs; arg 1; whnf}
  conv at hb => {rhs; arg 2; whnf}
  simp only [Prod.mk.injEq] at hb
  obtain ⟨rfl, rfl⟩ := hb
  revert XX
  k_fill
  intro XX
  simp only [List.take_succ_cons, List.take_zero, List.cons_append, List.nil_append]
  try dsimp only
  have a1 : @LT.lt Nat _ 54 (LL + 1) := Nat.lt_succ_of_lt h54
  have a3 : @LT.lt Nat _ 47 (LL + 1) := Nat.lt_succ_of_lt h47
  have a5 : @Ne Nat 47 54 := by decide
  have a6 : @LT.lt Nat _ P (LL + 1) := Nat.lt_succ_of_lt hP
  have k4 : @LT.lt Nat _ LL c2 := Nat.lt_of_succ_lt k3
  have k5 : @LT.lt Nat _ 47 c2 := Nat.lt_trans h47 k4
  have k6 : @LT.lt Nat _ P c2 := Nat.lt_trans hP k4
  have k7 : @LT.lt Nat _ 54 c2 := Nat.lt_trans h54 k4
  have k8 : @LT.lt Nat _ 47 c1 := Nat.lt_trans k5 k1
  have k9 : @LT.lt Nat _ P c1 := Nat.lt_trans k6 k1
  have l5 : @LT.lt Nat _ 54 c1 := Nat.lt_trans k7 k1
  have l6 : @LT.lt Nat _ (LL + 1) c1 := Nat.lt_trans k3 k1
  have hq5 : Builtin.Int.intBits (q ^ (5 : Int).toNat) ≤ 5001 := pow_bits hq2 hn2 5
  have hq4 : Builtin.Int.intBits (q ^ (4 : Int).toNat) ≤ 4001 := pow_bits hq2 hn2 4
  have hq8 : Builtin.Int.intBits (q ^ (8 : Int).toNat) ≤ 8001 := pow_bits hq2 hn2 8
  have hq15 : Builtin.Int.intBits (q ^ (15 : Int).toNat) ≤ 15001 := pow_bits hq2 hn2 15
  obtain ⟨w1, w2, w3, w4⟩ := whole_ok hg hn hn2 hhf
  rw [← hw, ← hdv] at w2 w3 w4
  rw [← hw] at w1
  (repeat' (first | (k_unfold; (try dsimp only)) | ((fail_if_success (with_reducible first | show wpAny _ _ (PySem.call (Value.ref _) _) _ _ _ | show wpAny _ _ (pyIter (Value.ref _)) _ _ _ | show wpAny _ _ (exec (Stmt.For _ _ _ _ _) _) _ _ _ | show LCg.CompSrc _ _ _ _ _ _ _ _ _ _ _ _ _ _ | show LCg.CompEnd _ _ _ _ _ _ _ _ _ _ _ _ _ _ | show wpAny _ _ (eval (Expr.ListComp _ _ _ _) _) _ _ _ | show wpAny _ _ (eval (Expr.DictComp _ _ _ _ _) _) _ _ _ | show wpAny _ _ (exec (Stmt.Assign _ (Expr.ListComp _ _ _ _) _) _) _ _ _ | show wpAny _ _ (exec (Stmt.Assign _ (Expr.DictComp _ _ _ _ _) _) _) _ _ _ | show _ ≤ _)); (first | walk1 | (dsimp only; walk1)) <;> (try dsimp only)) | (leave1; try dsimp only) | fail "no step"))
  (k_dflt (refine' Ok.use ?k1n45 ?k2n45 ?k3n45 ?k4n45 ?k5n45 ?kKn45 ?kCn45 (dmp (c1 := c1) (c2 := c2) hc1 hc2 l5 k7 (Nat.ne_of_gt k1) w1 (by rw [hdv]; exact (told_is (h := hf) hg hn).1) (by rw [hdv]; exact (hor_bits hg hn hn2).2.1) rfl w3 w4) ?kPn45 ?kapn45 ?kdn45 ?kun45 ?_); (case k1n45 | k2n45 | k3n45 | k4n45 | k5n45 => k_asm); (case kKn45 => exact rfl); (case kCn45 => assumption); (case kPn45 => (repeat' first | exact Picks.nil | (with_reducible exact Pick.head) | apply Picks.cons | apply Pick.tail)); (case kapn45 => (k_whole; unfold Apart; repeat' (first | exact List.forall_mem_nil _ | (refine List.forall_mem_cons.mpr ⟨?_, ?_⟩) | k_ne))); (case kdn45 => (first | exact room1 (by assumption) rfl | exact room0 (by assumption) | ktr_room)); (case kun45 => (first | exact units1 (by assumption) rfl | ktr_units)))
  intro b5 r5 n5 h5 tk5 U5 F5 N5 hp5
  obtain ⟨T5, u1, u2, lt5, rfl, rfl⟩ := hp5
  rw [w2] at N5
  have hrm : undig n (toldL hf pp) * dv + wh % dv = wh := by rw [← w2, Int.mul_comm]; exact Int.mul_ediv_add_emod ..
  generalize wh % dv = rm at hrm N5
  simp only [List.cons_append, List.nil_append, List.append_nil] at N5
  clear U5
  try dsimp only
  (repeat' (first | (k_unfold; (try dsimp only)) | ((fail_if_success (with_reducible first | show wpAny _ _ (PySem.call (Value.ref _) _) _ _ _ | show wpAny _ _ (pyIter (Value.ref _)) _ _ _ | show wpAny _ _ (exec (Stmt.For _ _ _ _ _) _) _ _ _ | show LCg.CompSrc _ _ _ _ _ _ _ _ _ _ _ _ _ _ | show LCg.CompEnd _ _ _ _ _ _ _ _ _ _ _ _ _ _ | show wpAny _ _ (eval (Expr.ListComp _ _ _ _) _) _ _ _ | show wpAny _ _ (eval (Expr.DictComp _ _ _ _ _) _) _ _ _ | show wpAny _ _ (exec (Stmt.Assign _ (Expr.ListComp _ _ _ _) _) _) _ _ _ | show wpAny _ _ (exec (Stmt.Assign _ (Expr.DictComp _ _ _ _ _) _) _) _ _ _ | show _ ≤ _)); (first | walk1 | (dsimp only; walk1)) <;> (try dsimp only)) | (leave1; try dsimp only) | fail "no step"))
  try dsimp only
  exact ret _ _ _ _ _ _ _ _ _ _ hrm rfl rfl (see8 (by k_asm) rfl rfl rfl rfl rfl rfl rfl rfl) (cb_drop (by k_asm) (by ki_room))
set_option maxHeartbeats 4000000 in
theorem ldHard {stm rest : List Stmt} {scope : Scope} (hb : (stm, scope) = (((topFn 26).1.drop 16).take 1, (topFn 26).2))
    {dp un : Nat} {gd : Option (List Code)} {cn : PySem.Str} {cs : Scope} {L fa LL : Addr} {ccd : Value} {cl : List (PySem.Str × Addr)} {outer : List Env} {base gg : Heap} {m : PySem.Str → Option Value} {s : Shared} {E : Value → Shared → Prop} {Q : Flow → Shared → Prop} (BB : Below (ktrTop dp un gd cn cs L fa ccd cl outer) base (envX cn cs L fa ccd cl :: outer) gg) (XX : (Mine.hd.heap_1 w.params).In gg) (TT : Top p loose mean mg mb gg) (hC : Codes base) (hd : dp + 200 < recursionLimit) (hu : un + 8 * 200 < cLine)
    {oh oc1 oc2 oP : Obj} {P c1 c2 : Addr} {n : Nat} {hf : Int} {th : Tok} {cc : C8} {pp : P5} {q dv wh to rm ha ti : Int} {tq tv tw twh tto trm tha tti : Tok} (h47 : @LT.lt Nat _ 47 LL) (h54 : @LT.lt Nat _ 54 LL) (hP : @LT.lt Nat _ P LL) (dP1 : @Ne Nat 47 P) (dP2 : @Ne Nat 54 P) (k3 : @LT.lt Nat _ (LL + 1) c2) (k1 : @LT.lt Nat _ c2 c1) (hc1 : CodeAt q47 oc1) (hc2 : CodeAt q54 oc2) (dh : oh.data = .cell (some (.int hf th))) (hn : 32 ≤ n) (hn2 : n ≤ 1000) (hg : Good cc pp) (hhf : 2 ^ n = 2 * hf) (hfB : Builtin.Int.intBits hf ≤ 20000) (F : Fr gg LL s.heap fun y => if y = "told" then some (.int to tto) else if y = "rest" then some (.int rm trm) else if y = "hard" then some (.int ha tha) else if y = "times" then some (.int ti tti) else if y = "whole" then some (.int wh twh) else if y = "divisor" then some (.int dv tv) else if y = "q" then some (.int q tq) else if y = "width" then some (.int (n : Int) tw) else m y)
    (N : News gg LL s.heap ((LL + 1, oh) :: (47, tab47 c1) :: (c1, oc1) :: (54, tab54 c2) :: (c2, oc2) :: (P, oP) :: []))
    (hq2 : q = 2 ^ n) (hq : Builtin.Int.intBits q ≤ 1001) (hto : to * dv + rm = wh) (hha : ha = q ^ 8 + q ^ 4 - 1) (hti : ti = 2 * q ^ 15 - (q ^ 4).fdiv 2) (htb : Builtin.Int.intBits to ≤ 20000) (hDb : Builtin.Int.intBits dv ≤ 9000)
    (ret : ∀ h' tk (m' : PySem.Str → Option Value), Fr gg LL h' (fun y => if y = "told" then some (.int to tto) else if y = "width" then some (.int (n : Int) tw) else m' y) → News gg LL h' ((LL + 1, oh) :: (47, tab47 c1) :: (c1, oc1) :: (54, tab54 c2) :: (c2, oc2) :: (P, oP) :: []) →
      wpAny (model PySem.Challenge.rw_wy0040_01.row.toRowW.prog w) ((ktrTop dp un gd cn cs L fa ccd cl outer).deeper (envOfC "_law_divided" scope LL 276 (.ref 275))) (execs rest (envOfC "_law_divided" scope LL 276 (.ref 275))) Q E { s with heap := h', toks := tk }) :
    wpAny (model PySem.Challenge.rw_wy0040_01.row.toRowW.prog w) ((ktrTop dp un gd cn cs L fa ccd cl outer).deeper (envOfC "_law_divided" scope LL 276 (.ref 275))) (execs (stm ++ rest) (envOfC "_law_divided" scope LL 276 (.ref 275))) Q E s := by
  conv at hb => {rhs; arg 1; whnf}
  conv at hb => {rhs; arg 2; whnf}
  simp only [Prod.mk.injEq] at hb
  obtain ⟨rfl, rfl⟩ := hb
  revert XX
  k_fill
  intro XX
  simp only [List.take_succ_cons, List.take_zero, List.cons_append, List.nil_append]
  try dsimp only
  have a1 : @LT.lt Nat _ 54 (LL + 1) := Nat.lt_succ_of_lt h54
  have a3 : @LT.lt Nat _ 47 (LL + 1) := Nat.lt_succ_of_lt h47
  have a5 : @Ne Nat 47 54 := by decide
  have a6 : @LT.lt Nat _ P (LL + 1) := Nat.lt_succ_of_lt hP
  have k4 : @LT.lt Nat _ LL c2 := Nat.lt_of_succ_lt k3
  have k5 : @LT.lt Nat _ 47 c2 := Nat.lt_trans h47 k4
  have k6 : @LT.lt Nat _ P c2 := Nat.lt_trans hP k4
  have k7 : @LT.lt Nat _ 54 c2 := Nat.lt_trans h54 k4
  have k8 : @LT.lt Nat _ 47 c1 := Nat.lt_trans k5 k1
  have k9 : @LT.lt Nat _ P c1 := Nat.lt_trans k6 k1
  have l5 : @LT.lt Nat _ 54 c1 := Nat.lt_trans k7 k1
  have l6 : @LT.lt Nat _ (LL + 1) c1 := Nat.lt_trans k3 k1
  obtain ⟨j1, j2, j3, j4, j5, j6, j7⟩ := hard_ok hn hn2 (H := ha) (T := ti) (by rw [hha, hq2]) (by rw [hti, hq2, Int.fdiv_eq_ediv_of_nonneg _ (by decide)])
  have htib : Builtin.Int.intBits ti ≤ 15004 := by
    rw [hti]
    have hq4 : Builtin.Int.intBits ((q ^ 4).fdiv 2) ≤ 4001 := fdiv2_bits hq2 hn2 4
    have hq15 : Builtin.Int.intBits (q ^ 15) ≤ 15001 := pow_bits hq2 hn2 15
    exact Nat.le_trans (intBits_sub_le (intBits_mul_le (show Builtin.Int.intBits 2 ≤ 2 by decide) hq15) hq4) (by decide)
  (repeat' (first | (k_unfold; (try dsimp only)) | ((fail_if_success (with_reducible first | show wpAny _ _ (PySem.call (Value.ref _) _) _ _ _ | show wpAny _ _ (pyIter (Value.ref _)) _ _ _ | show wpAny _ _ (exec (Stmt.For _ _ _ _ _) _) _ _ _ | show LCg.CompSrc _ _ _ _ _ _ _ _ _ _ _ _ _ _ | show LCg.CompEnd _ _ _ _ _ _ _ _ _ _ _ _ _ _ | show wpAny _ _ (eval (Expr.ListComp _ _ _ _) _) _ _ _ | show wpAny _ _ (eval (Expr.DictComp _ _ _ _ _) _) _ _ _ | show wpAny _ _ (exec (Stmt.Assign _ (Expr.ListComp _ _ _ _) _) _) _ _ _ | show wpAny _ _ (exec (Stmt.Assign _ (Expr.DictComp _ _ _ _ _) _) _) _ _ _ | show _ ≤ _)); (first | walk1 | (dsimp only; walk1)) <;> (try dsimp only)) | (leave1; try dsimp only) | fail "no step"))
  · exact absurd hto (by assumption)
  (k_dflt (refine' Ok.use ?k1n46 ?k2n46 ?k3n46 ?k4n46 ?k5n46 ?kKn46 ?kCn46 (dmp (c1 := c1) (c2 := c2) hc1 hc2 l5 k7 (Nat.ne_of_gt k1) j2 j1 j3 rfl j6 j7) ?kPn46 ?kapn46 ?kdn46 ?kun46 ?_); (case k1n46 | k2n46 | k3n46 | k4n46 | k5n46 => k_asm); (case kKn46 => exact rfl); (case kCn46 => assumption); (case kPn46 => (repeat' first | exact Picks.nil | (with_reducible exact Pick.head) | apply Picks.cons | apply Pick.tail)); (case kapn46 => (k_whole; unfold Apart; repeat' (first | exact List.forall_mem_nil _ | (refine List.forall_mem_cons.mpr ⟨?_, ?_⟩) | k_ne))); (case kdn46 => (first | exact room1 (by assumption) rfl | exact room0 (by assumption) | ktr_room)); (case kun46 => (first | exact units1 (by assumption) rfl | ktr_units)))
  intro b4 r4 n4 h4 tk4 U4 F4 N4 hp4'
  obtain ⟨T4, u3, u4, lt4, rfl, rfl⟩ := hp4'
  rw [j4, j5] at N4
  simp only [List.cons_append, List.nil_append, List.append_nil] at N4
  clear U4
  try dsimp only
  (repeat' (first | (k_unfold; (try dsimp only)) | ((fail_if_success (with_reducible first | show wpAny _ _ (PySem.call (Value.ref _) _) _ _ _ | show wpAny _ _ (pyIter (Value.ref _)) _ _ _ | show wpAny _ _ (exec (Stmt.For _ _ _ _ _) _) _ _ _ | show LCg.CompSrc _ _ _ _ _ _ _ _ _ _ _ _ _ _ | show LCg.CompEnd _ _ _ _ _ _ _ _ _ _ _ _ _ _ | show wpAny _ _ (eval (Expr.ListComp _ _ _ _) _) _ _ _ | show wpAny _ _ (eval (Expr.DictComp _ _ _ _ _) _) _ _ _ | show wpAny _ _ (exec (Stmt.Assign _ (Expr.ListComp _ _ _ _) _) _) _ _ _ | show wpAny _ _ (exec (Stmt.Assign _ (Expr.DictComp _ _ _ _ _) _) _) _ _ _ | show _ ≤ _)); (first | walk1 | (dsimp only; walk1)) <;> (try dsimp only)) | (leave1; try dsimp only) | fail "no step"))
  try dsimp only
  exact ret _ _ _ (see2 (by k_asm) rfl rfl) (cb_drop (by k_asm) (by ki_room))
end
end
end
theorem offLDg : True := by
  w_top off
  exact True.intro
section
open PySem PySem.W PySem.Spec PySem.Calls PyProof.Rows
section
variable {w : World} {p : Program} {loose : List PySem.Str} {mean : ExcName → Option Value} {mg mb : PySem.Str → Option Value}
set_option maxHeartbeats 4000000 in
theorem ldRet {stm : List Stmt} {scope : Scope} (hb : (stm, scope) = ((topFn 26).1.drop 17, (topFn 26).2))
    {dp un : Nat} {gd : Option (List Code)} {cn : PySem.Str} {cs : Scope} {L fa LL : Addr} {ccd : Value} {cl : List (PySem.Str × Addr)} {outer : List Env} {base gg : Heap} {m : PySem.Str → Option Value} {s : Shared} {E : Value → Shared → Prop} {Q : Flow → Shared → Prop} (BB : Below (ktrTop dp un gd cn cs L fa ccd cl outer) base (envX cn cs L fa ccd cl :: outer) gg) (XX : (Mine.hd.heap_1 w.params).In gg) (TT : Top p loose mean mg mb gg) (hC : Codes base) (hd : dp + 200 < recursionLimit) (hu : un + 8 * 200 < cLine)
    {oh oc1 oc2 oP : Obj} {P c1 c2 : Addr} {n : Nat} {hf : Int} {th : Tok} {cc : C8} {pp : P5} {tw tto : Tok} (h47 : @LT.lt Nat _ 47 LL) (h54 : @LT.lt Nat _ 54 LL) (hP : @LT.lt Nat _ P LL) (dP1 : @Ne Nat 47 P) (dP2 : @Ne Nat 54 P) (k3 : @LT.lt Nat _ (LL + 1) c2) (k1 : @LT.lt Nat _ c2 c1) (hc1 : CodeAt q47 oc1) (hc2 : CodeAt q54 oc2) (dh : oh.data = .cell (some (.int hf th))) (hn : 32 ≤ n) (hn2 : n ≤ 1000) (hg : Good cc pp) (hhf : 2 ^ n = 2 * hf) (hfB : Builtin.Int.intBits hf ≤ 20000) (F : Fr gg LL s.heap fun y => if y = "told" then some (.int (undig n (toldL hf pp)) tto) else if y = "width" then some (.int (n : Int) tw) else m y)
    (N : News gg LL s.heap ((LL + 1, oh) :: (47, tab47 c1) :: (c1, oc1) :: (54, tab54 c2) :: (c2, oc2) :: (P, oP) :: []))
    (ret : ∀ h' tk (m' : PySem.Str → Option Value) RR ys, IntsAre ys (outL pp) → Fr gg LL h' m' → News gg LL h' ((RR, LCg.lst ys) :: (47, tab47 c1) :: (c1, oc1) :: (54, tab54 c2) :: (c2, oc2) :: (P, oP) :: []) → (∀ q ∈ (LL + 1, oh) :: (47, tab47 c1) :: (c1, oc1) :: (54, tab54 c2) :: (c2, oc2) :: (P, oP) :: [], @Ne Nat q.1 RR) → Q (.ret (.ref RR)) { s with heap := h', toks := tk }) :
    wpAny (model PySem.Challenge.rw_wy0040_01.row.toRowW.prog w) ((ktrTop dp un gd cn cs L fa ccd cl outer).deeper (envOfC "_law_divided" scope LL 276 (.ref 275))) (execs stm (envOfC "_law_divided" scope LL 276 (.ref 275))) Q E s := by
  conv at hb => {rhs; arg 1; whnf}
  conv at hb => {rhs; arg 2; whnf}
  simp only [Prod.mk.injEq] at hb
  obtain ⟨rfl, rfl⟩ := hb
  revert XX
  k_fill
  intro XX
  try simp only [List.take_succ_cons, List.take_zero, List.cons_append, List.nil_append]
  try dsimp only
  have a1 : @LT.lt Nat _ 54 (LL + 1) := Nat.lt_succ_of_lt h54
  have a3 : @LT.lt Nat _ 47 (LL + 1) := Nat.lt_succ_of_lt h47
  have a5 : @Ne Nat 47 54 := by decide
  have a6 : @LT.lt Nat _ P (LL + 1) := Nat.lt_succ_of_lt hP
  have k4 : @LT.lt Nat _ LL c2 := Nat.lt_of_succ_lt k3
  have k5 : @LT.lt Nat _ 47 c2 := Nat.lt_trans h47 k4
  have k6 : @LT.lt Nat _ P c2 := Nat.lt_trans hP k4
  have k7 : @LT.lt Nat _ 54 c2 := Nat.lt_trans h54 k4
  have k8 : @LT.lt Nat _ 47 c1 := Nat.lt_trans k5 k1
  have k9 : @LT.lt Nat _ P c1 := Nat.lt_trans k6 k1
  have l5 : @LT.lt Nat _ 54 c1 := Nat.lt_trans k7 k1
  have l6 : @LT.lt Nat _ (LL + 1) c1 := Nat.lt_trans k3 k1
  obtain ⟨z1, z2, z3, z4⟩ := told_all (n := n) hg hn hhf
  (repeat' (first | (k_unfold; (try dsimp only)) | ((fail_if_success (with_reducible first | show wpAny _ _ (PySem.call (Value.ref _) _) _ _ _ | show wpAny _ _ (pyIter (Value.ref _)) _ _ _ | show wpAny _ _ (exec (Stmt.For _ _ _ _ _) _) _ _ _ | show LCg.CompSrc _ _ _ _ _ _ _ _ _ _ _ _ _ _ | show LCg.CompEnd _ _ _ _ _ _ _ _ _ _ _ _ _ _ | show wpAny _ _ (eval (Expr.ListComp _ _ _ _) _) _ _ _ | show wpAny _ _ (eval (Expr.DictComp _ _ _ _ _) _) _ _ _ | show wpAny _ _ (exec (Stmt.Assign _ (Expr.ListComp _ _ _ _) _) _) _ _ _ | show wpAny _ _ (exec (Stmt.Assign _ (Expr.DictComp _ _ _ _ _) _) _) _ _ _ | show _ ≤ _)); (first | walk1 | (dsimp only; walk1)) <;> (try dsimp only)) | (leave1; try dsimp only) | fail "no step"))
  (rename Fr _ _ _ _ => lFc)
  refine' LCg.ListComp_U lFc ?s1 ?s2 ?s3 ?s4 ?s5 ?s6
  case s1 => exact rfl
  case s2 => decide
  case s3 => exact rfl
  case s4 => decide
  case s5 => exact rfl
  (repeat' (first | (k_unfold; (try dsimp only)) | ((fail_if_success (with_reducible first | show wpAny _ _ (PySem.call (Value.ref _) _) _ _ _ | show wpAny _ _ (pyIter (Value.ref _)) _ _ _ | show wpAny _ _ (exec (Stmt.For _ _ _ _ _) _) _ _ _ | show LCg.CompSrc _ _ _ _ _ _ _ _ _ _ _ _ _ _ | show LCg.CompEnd _ _ _ _ _ _ _ _ _ _ _ _ _ _ | show wpAny _ _ (eval (Expr.ListComp _ _ _ _) _) _ _ _ | show wpAny _ _ (eval (Expr.DictComp _ _ _ _ _) _) _ _ _ | show wpAny _ _ (exec (Stmt.Assign _ (Expr.ListComp _ _ _ _) _) _) _ _ _ | show wpAny _ _ (exec (Stmt.Assign _ (Expr.DictComp _ _ _ _ _) _) _) _ _ _ | show _ ≤ _)); (first | walk1 | (dsimp only; walk1)) <;> (try dsimp only)) | (leave1; try dsimp only) | fail "no step"))
  (k_dflt (refine' Ok.use ?k1n47 ?k2n47 ?k3n47 ?k4n47 ?k5n47 ?kKn47 ?kCn47 (i2d_hit (c := c1) (n := n) (M := 5) hc1 k8 z1 (Nat.le_trans (by decide) hn) (Nat.le_trans hn2 (by decide)) z2 (by decide) (by decide)) ?kPn47 ?kapn47 ?kdn47 ?kun47 ?_); (case k1n47 | k2n47 | k3n47 | k4n47 | k5n47 => k_asm); (case kKn47 => exact rfl); (case kCn47 => assumption); (case kPn47 => (repeat' first | exact Picks.nil | (with_reducible exact Pick.head) | apply Picks.cons | apply Pick.tail)); (case kapn47 => (k_whole; unfold Apart; repeat' (first | exact List.forall_mem_nil _ | (refine List.forall_mem_cons.mpr ⟨?_, ?_⟩) | k_ne))); (case kdn47 => (first | exact room1 (by assumption) rfl | exact room0 (by assumption) | ktr_room)); (case kun47 => (first | exact units1 (by assumption) rfl | ktr_units)))
  intro b3 r3 n3 h3 tk3' U3 F3 N3 hp3'
  obtain ⟨lO, vO, lt3, hvO, rfl, rfl⟩ := hp3'
  rw [z3] at hvO
  have hvL : vO.toArray.size = 5 := by rw [List.size_toArray, hvO.length]; rfl
  simp only [List.cons_append, List.nil_append, List.append_nil] at N3
  clear U3
  have N3' := cb_drop (news := (lO, lstO vO) :: (LL + 1, oh) :: (47, tab47 c1) :: (c1, oc1) :: (54, tab54 c2) :: (c2, oc2) :: (P, oP) :: []) N3 (by ki_room)
  clear N3
  try dsimp only
  refine LCg.CompSrc.ledger (its := vO.toArray) (k := 0) (by rfl) F3 N3' (by (with_reducible repeat' first | exact List.mem_cons_self .. | refine List.mem_cons_of_mem _ ?_)) (by rw [hvL]; decide) (fun g3 => ?_)
  refine comp_ind (n := vO.toArray.size) (fun i ys news => IntsAre ys ((outL pp).take i) ∧ news = (lO, lstO vO) :: (LL + 1, oh) :: (47, tab47 c1) :: (c1, oc1) :: (54, tab54 c2) :: (c2, oc2) :: (P, oP) :: []) ?cj0 ?cj1 _ _ _ _ (Nat.zero_add _) ⟨.nil, rfl⟩
  case cj1 =>
    clear ret
    rintro i ys news hi ⟨hys, rfl⟩ v I1 oI C oC DD m2 h1 tk1 E1 hPv hCo hxj F1 N1 off1 ne1
    rw [hvL] at hi
    obtain ⟨tf, rfl⟩ := ints_at hvO (by simpa using hPv)
    (repeat' (first | (k_unfold; (try dsimp only)) | ((fail_if_success (with_reducible first | show wpAny _ _ (PySem.call (Value.ref _) _) _ _ _ | show wpAny _ _ (pyIter (Value.ref _)) _ _ _ | show wpAny _ _ (exec (Stmt.For _ _ _ _ _) _) _ _ _ | show LCg.CompSrc _ _ _ _ _ _ _ _ _ _ _ _ _ _ | show LCg.CompEnd _ _ _ _ _ _ _ _ _ _ _ _ _ _ | show wpAny _ _ (eval (Expr.ListComp _ _ _ _) _) _ _ _ | show wpAny _ _ (eval (Expr.DictComp _ _ _ _ _) _) _ _ _ | show wpAny _ _ (exec (Stmt.Assign _ (Expr.ListComp _ _ _ _) _) _) _ _ _ | show wpAny _ _ (exec (Stmt.Assign _ (Expr.DictComp _ _ _ _ _) _) _) _ _ _ | show _ ≤ _ | show UnrEnd _ _ _ _ _ _ _ | show UnrPost _ _ _ _ _ _ _ _ _ | show UnrEndW _ _ _ _ _ _)); (first | walk1 | (dsimp only; walk1)) <;> (try dsimp only)) | (leave1; try dsimp only) | fail "no step"))
    (rename Fr _ _ _ _ => lF9); (rename News _ _ _ _ => lN9)
    exact LCg.CompEnd.intro lF9 lN9 _ (by (with_reducible repeat' first | exact List.forall_mem_nil _ | refine List.forall_mem_cons.mpr ⟨?_, ?_⟩ | exact List.mem_cons_self .. | refine List.mem_cons_of_mem _ ?_)) off1 (.inr ⟨_, by (with_reducible repeat' first | exact List.mem_cons_self .. | refine List.mem_cons_of_mem _ ?_), rfl, _, rfl⟩) ⟨by rw [out_snoc hf _ hi]; exact intsAre_snoc hys _ _, rfl⟩
  case cj0 =>
    rintro ys news ⟨hys, rfl⟩
    rw [hvL, show (outL pp).take 5 = outL pp from rfl] at hys
    intro RR h1 tk1 F1 N1 o1
    (repeat' (first | (k_unfold; (try dsimp only)) | ((fail_if_success (with_reducible first | show wpAny _ _ (PySem.call (Value.ref _) _) _ _ _ | show wpAny _ _ (pyIter (Value.ref _)) _ _ _ | show wpAny _ _ (exec (Stmt.For _ _ _ _ _) _) _ _ _ | show LCg.CompSrc _ _ _ _ _ _ _ _ _ _ _ _ _ _ | show LCg.CompEnd _ _ _ _ _ _ _ _ _ _ _ _ _ _ | show wpAny _ _ (eval (Expr.ListComp _ _ _ _) _) _ _ _ | show wpAny _ _ (eval (Expr.DictComp _ _ _ _ _) _) _ _ _ | show wpAny _ _ (exec (Stmt.Assign _ (Expr.ListComp _ _ _ _) _) _) _ _ _ | show wpAny _ _ (exec (Stmt.Assign _ (Expr.DictComp _ _ _ _ _) _) _) _ _ _ | show _ ≤ _)); (first | walk1 | (dsimp only; walk1)) <;> (try dsimp only)) | (leave1; try dsimp only) | fail "no step"))
    trace_state
    exact ret _ _ _ RR ys hys (by k_asm) (cb_drop (by k_asm) (by ki_room)) (fun q hq => LCoff o1 q (List.mem_cons_of_mem _ hq))
end
end
theorem offLDh : True := by
  w_top off
  exact True.intro
section
open PySem PySem.W PySem.Spec PySem.Calls PyProof.Rows
section
variable {w : World} {p : Program} {loose : List PySem.Str} {mean : ExcName → Option Value} {mg mb : PySem.Str → Option Value}
inductive DgJ (q sm wd : Int) (tq ts tw : Tok) (SQ P : Addr) (R : Nat → Addr) (V : Nat → Nat → Int) (tl : Led) (k : Nat) (m' : PySem.Str → Option Value) (n' : Led) : Prop
  | mk (a1 : m' "q" = some (.int q tq)) (a2 : m' "s" = some (.int sm ts)) (a3 : m' "width" = some (.int wd tw)) (a4 : m' "square" = some (.ref SQ)) (a5 : m' "pairs" = some (.ref P)) (V' : Nat → Nat → Int) (T' : Nat → Nat → Tok)
      (hV : ∀ i j, i < 3 → j < 3 → V' i j = if i = j ∧ i < k then q * q - sm * sm else V i j) (e : n' = sqL SQ R V' T' tl)
inductive PrJ (ps : List PE) (q sm wd : Int) (tq ts tw : Tok) (SQ : Addr) (R : Nat → Addr) (tl : Led) (r : List PE) (m' : PySem.Str → Option Value) (n' : Led) : Prop
  | mk (a1 : m' "q" = some (.int q tq)) (a2 : m' "s" = some (.int sm ts)) (a3 : m' "width" = some (.int wd tw)) (a4 : m' "square" = some (.ref SQ)) (pre : List PE) (V' : Nat → Nat → Int) (T' : Nat → Nat → Tok) (hp : ps = pre ++ r)
      (hV : ∀ i j, i < 3 → j < 3 → V' i j = ent q sm (pre.map PE.nf) i j) (e : n' = sqL SQ R V' T' tl)
theorem up2_add {V : Nat → Nat → Int} {a b i j : Nat} {x : Int} : up2 V a b (V a b + x) i j = V i j + (if i = a ∧ j = b then x else 0) := by
  unfold up2
  split
  · rename_i h; rw [h.1, h.2]
  · exact (Int.add_zero _).symm
theorem dl_is {q s : Int} {a b i j : Nat} {ta tb : Tok} {ea : Addr} : dl q s (PE.nf ⟨ea, (a : Int), ta, (b : Int), tb⟩) i j = (if i = a ∧ j = a then s else 0) + (if i = b ∧ j = b then s else 0) + (if i = a ∧ j = b then -q else 0) + (if i = b ∧ j = a then -q else 0) := by
  have e1 : ((a : Int) = i ∧ i = j) ↔ (i = a ∧ j = a) := by (first | lia | omega)
  have e2 : ((b : Int) = i ∧ i = j) ↔ (i = b ∧ j = b) := by (first | lia | omega)
  have e3 : ((a : Int) = i ∧ (b : Int) = j) ↔ (i = a ∧ j = b) := by (first | lia | omega)
  have e4 : ((b : Int) = i ∧ (a : Int) = j) ↔ (i = b ∧ j = a) := by (first | lia | omega)
  simp only [dl, PE.nf, e1, e2, e3, e4]
theorem SqD.cons {SQ : Addr} {R : Nat → Addr} {tl : Led} (D : SqD SQ R tl) {c : Addr × Obj} (h : ∀ i, i < 3 → @Ne Nat c.1 (R i)) : SqD SQ R (c :: tl) :=
  ⟨D.r01, D.r02, D.r12, D.sq, fun i hi p hp => by
    rcases List.mem_cons.mp hp with rfl | hp
    · exact h i hi
    · exact D.tl i hi p hp⟩
theorem sq_off {SQ i5 : Addr} {R : Nat → Addr} {V : Nat → Nat → Int} {T : Nat → Nat → Tok} {tl : Led} (l : ∀ p ∈ sqL SQ R V T tl, @Ne Nat p.1 i5) : ∀ i, i < 3 → @Ne Nat i5 (R i) := fun i hi =>
  cas3 (P := fun i => @Ne Nat i5 (R i)) hi (Ne.symm (l (R 0, _) (.tail _ (.tail _ (.tail _ (.head _)))))) (Ne.symm (l (R 1, _) (.tail _ (.tail _ (.head _))))) (Ne.symm (l (R 2, _) (.tail _ (.head _))))
theorem sq_in {x SQ : Addr} {o : Obj} {R : Nat → Addr} {V : Nat → Nat → Int} {T : Nat → Nat → Tok} {tl : Led} : ∀ q ∈ sqL SQ R V T ((x, o) :: tl), q ∈ (x, o) :: sqL SQ R V T tl := fun q hq => by
  simp only [sqL, List.mem_cons] at hq ⊢
  rcases hq with h | h | h | h | h | h <;> simp [h]
theorem sq_ni {x SQ : Addr} {o : Obj} {R : Nat → Addr} {V : Nat → Nat → Int} {T : Nat → Nat → Tok} {tl : Led} : ∀ q ∈ (x, o) :: sqL SQ R V T tl, q ∈ sqL SQ R V T ((x, o) :: tl) := fun q hq => by
  simp only [sqL, List.mem_cons] at hq ⊢
  rcases hq with h | h | h | h | h | h <;> simp [h]
theorem sq_far {SQ i5 : Addr} {R : Nat → Addr} {V V' : Nat → Nat → Int} {T T' : Nat → Nat → Tok} {tl : Led} (l : ∀ p ∈ sqL SQ R V T tl, @LT.lt Nat _ p.1 i5) : ∀ p ∈ sqL SQ R V' T' tl, @Ne Nat p.1 i5 := fun p hp => by
  simp only [sqL, List.mem_cons] at hp
  rcases hp with rfl | rfl | rfl | rfl | hp
  · exact Nat.ne_of_lt (l (SQ, lstO [.ref (R 0), .ref (R 1), .ref (R 2)]) (.head _))
  · exact Nat.ne_of_lt (l (R 2, rwO V T 2) (.tail _ (.head _)))
  · exact Nat.ne_of_lt (l (R 1, rwO V T 1) (.tail _ (.tail _ (.head _))))
  · exact Nat.ne_of_lt (l (R 0, rwO V T 0) (.tail _ (.tail _ (.tail _ (.head _)))))
  · exact Nat.ne_of_lt (l p (.tail _ (.tail _ (.tail _ (.tail _ hp)))))
set_option maxHeartbeats 4000000 in
theorem ldDiag {stm rest : List Stmt} {scope : Scope} (hb : (stm, scope) = (((topFn 26).1.drop 4).take 1, (topFn 26).2))
    {dp un : Nat} {gd : Option (List Code)} {cn : PySem.Str} {cs : Scope} {L fa LL : Addr} {ccd : Value} {cl : List (PySem.Str × Addr)} {outer : List Env} {base gg : Heap} {m : PySem.Str → Option Value} {s : Shared} {E : Value → Shared → Prop} {Q : Flow → Shared → Prop} {SQ P : Addr} {R : Nat → Addr} {V : Nat → Nat → Int} {T : Nat → Nat → Tok} {tl : Led} {q sm wd : Int} {tq ts tw : Tok} (BB : Below (ktrTop dp un gd cn cs L fa ccd cl outer) base (envX cn cs L fa ccd cl :: outer) gg) (XX : (Mine.hd.heap_1 w.params).In gg) (TT : Top p loose mean mg mb gg) (hC : Codes base) (hd : dp + 200 < recursionLimit) (hu : un + 8 * 200 < cLine) (hE : PassesOwn (model PySem.Challenge.rw_wy0040_01.row.toRowW.prog w) ((ktrTop dp un gd cn cs L fa ccd cl outer).deeper (envOfC "_law_divided" scope LL 276 (.ref 275))) (envOfC "_law_divided" scope LL 276 (.ref 275)) E) (D : SqD SQ R tl) (F : Fr gg LL s.heap fun y => if y = "q" then some (.int q tq) else if y = "s" then some (.int sm ts) else if y = "width" then some (.int wd tw) else if y = "square" then some (.ref SQ) else if y = "pairs" then some (.ref P) else m y)
    (N : News gg LL s.heap (sqL SQ R V T tl)) (hq : Builtin.Int.intBits q ≤ 1001) (hs : Builtin.Int.intBits sm ≤ 64)
    (ret : ∀ h' tk V' T' (m' : PySem.Str → Option Value), (∀ i j, i < 3 → j < 3 → V' i j = if i = j then q * q - sm * sm else V i j) → Fr gg LL h' (fun y => if y = "q" then some (.int q tq) else if y = "s" then some (.int sm ts) else if y = "width" then some (.int wd tw) else if y = "square" then some (.ref SQ) else if y = "pairs" then some (.ref P) else m' y) → News gg LL h' (sqL SQ R V' T' tl) →
      wpAny (model PySem.Challenge.rw_wy0040_01.row.toRowW.prog w) ((ktrTop dp un gd cn cs L fa ccd cl outer).deeper (envOfC "_law_divided" scope LL 276 (.ref 275))) (execs rest (envOfC "_law_divided" scope LL 276 (.ref 275))) Q E { s with heap := h', toks := tk }) :
    wpAny (model PySem.Challenge.rw_wy0040_01.row.toRowW.prog w) ((ktrTop dp un gd cn cs L fa ccd cl outer).deeper (envOfC "_law_divided" scope LL 276 (.ref 275))) (execs (stm ++ rest) (envOfC "_law_divided" scope LL 276 (.ref 275))) Q E s := by
  conv at hb => {rhs; arg 1; whnf}
  conv at hb => {rhs; arg 2; whnf}
  simp only [Prod.mk.injEq] at hb
  obtain ⟨rfl, rfl⟩ := hb
  revert XX
  k_fill
  intro XX
  try simp only [List.take_succ_cons, List.take_zero, List.cons_append, List.nil_append]
  try dsimp only
  (repeat' (first | (k_unfold; (try dsimp only)) | ((fail_if_success (with_reducible first | show wpAny _ _ (PySem.call (Value.ref _) _) _ _ _ | show wpAny _ _ (pyIter (Value.ref _)) _ _ _ | show wpAny _ _ (exec (Stmt.For _ _ _ _ _) _) _ _ _ | show LCg.CompSrc _ _ _ _ _ _ _ _ _ _ _ _ _ _ | show LCg.CompEnd _ _ _ _ _ _ _ _ _ _ _ _ _ _ | show wpAny _ _ (eval (Expr.ListComp _ _ _ _) _) _ _ _ | show wpAny _ _ (eval (Expr.DictComp _ _ _ _ _) _) _ _ _ | show wpAny _ _ (exec (Stmt.Assign _ (Expr.ListComp _ _ _ _) _) _) _ _ _ | show wpAny _ _ (exec (Stmt.Assign _ (Expr.DictComp _ _ _ _ _) _) _) _ _ _ | show _ ≤ _)); (first | walk1 | (dsimp only; walk1)) <;> (try dsimp only)) | (leave1; try dsimp only) | fail "no step"))
  with_unfolding_all refine' For_invVF F (by rfl) (by rfl) ?_ (hE := hE)
  k_whole
  (repeat' (first | (k_unfold; (try dsimp only)) | ((fail_if_success (with_reducible first | show wpAny _ _ (PySem.call (Value.ref _) _) _ _ _ | show wpAny _ _ (pyIter (Value.ref _)) _ _ _ | show wpAny _ _ (exec (Stmt.For _ _ _ _ _) _) _ _ _ | show LCg.CompSrc _ _ _ _ _ _ _ _ _ _ _ _ _ _ | show LCg.CompEnd _ _ _ _ _ _ _ _ _ _ _ _ _ _ | show wpAny _ _ (eval (Expr.ListComp _ _ _ _) _) _ _ _ | show wpAny _ _ (eval (Expr.DictComp _ _ _ _ _) _) _ _ _ | show wpAny _ _ (exec (Stmt.Assign _ (Expr.ListComp _ _ _ _) _) _) _ _ _ | show wpAny _ _ (exec (Stmt.Assign _ (Expr.DictComp _ _ _ _ _) _) _) _ _ _ | show _ ≤ _)); (first | walk1 | (dsimp only; walk1)) <;> (try dsimp only)) | (leave1; try dsimp only) | fail "no step"))
  (rename IsRange _ _ _ _ _ _ _ _ => lR); (rename Fr _ _ _ _ => lF); (rename News _ _ _ _ => lN)
  with_unfolding_all refine iter_rangeUnr (n := 3) (by rfl) lR (by decide) (by decide) lF lN ?_
  intro i5 l5
  have d5 := sq_off fun p hp => Nat.ne_of_lt (l5 p hp)
  clear lR lF lN
  refine range_ind (DgJ q sm wd tq ts tw SQ P R V tl) ?j0 ?j1 _ _ _ _ (by decide) ?ji
  case ji => exact ⟨rfl, rfl, rfl, rfl, rfl, V, T, fun i j _ _ => by simp, rfl⟩
  case j1 =>
    clear ret
    rintro k m1 n1 hk ⟨a1, a2, a3, a4, a5, V1, T1, hV, rfl⟩ tt h1 tk1 F1 N1
    rw [Int.zero_add] at F1
    replace F1 : Fr gg LL h1 (fun y => if y = "k" then some (.int (k : Int) tt) else if y = "q" then some (.int q tq) else if y = "s" then some (.int sm ts) else if y = "width" then some (.int wd tw) else if y = "square" then some (.ref SQ) else if y = "pairs" then some (.ref P) else (if y = "k" then some (.int (k : Int) tt) else m1 y)) := see6 F1 rfl a1 a2 a3 a4 a5
    replace N1 : News gg LL h1 (sqL SQ R V1 T1 (_ :: tl)) := cb_drop N1 sq_in
    (repeat' (first | (k_unfold; (try dsimp only)) | ((fail_if_success (with_reducible first | show wpAny _ _ (PySem.call (Value.ref _) _) _ _ _ | show wpAny _ _ (pyIter (Value.ref _)) _ _ _ | show wpAny _ _ (exec (Stmt.For _ _ _ _ _) _) _ _ _ | show wpAny _ _ (subscriptTail _ _ _ _) _ _ _ | show DEnd _ _ _ _ _ _ _ _ _ _ _ _ _ _ | show wpAny _ _ (setItem _ _ _) _ _ _ | show wpAny _ _ (getItem _ _) _ _ _ | show LCg.CompSrc _ _ _ _ _ _ _ _ _ _ _ _ _ _ | show LCg.CompEnd _ _ _ _ _ _ _ _ _ _ _ _ _ _ | show wpAny _ _ (eval (Expr.ListComp _ _ _ _) _) _ _ _ | show wpAny _ _ (eval (Expr.DictComp _ _ _ _ _) _) _ _ _ | show wpAny _ _ (exec (Stmt.Assign _ (Expr.ListComp _ _ _ _) _) _) _ _ _ | show wpAny _ _ (exec (Stmt.Assign _ (Expr.DictComp _ _ _ _ _) _) _) _ _ _ | show _ ≤ _)); (first | walk1 | (dsimp only; walk1)) <;> (try dsimp only)) | (leave1; try dsimp only) | fail "no step"))
    refine sq_rowS hk N1 ?_ (by with_unfolding_all rfl)
    (repeat' (first | (k_unfold; (try dsimp only)) | ((fail_if_success (with_reducible first | show wpAny _ _ (PySem.call (Value.ref _) _) _ _ _ | show wpAny _ _ (pyIter (Value.ref _)) _ _ _ | show wpAny _ _ (exec (Stmt.For _ _ _ _ _) _) _ _ _ | show wpAny _ _ (subscriptTail _ _ _ _) _ _ _ | show DEnd _ _ _ _ _ _ _ _ _ _ _ _ _ _ | show wpAny _ _ (setItem _ _ _) _ _ _ | show wpAny _ _ (getItem _ _) _ _ _ | show LCg.CompSrc _ _ _ _ _ _ _ _ _ _ _ _ _ _ | show LCg.CompEnd _ _ _ _ _ _ _ _ _ _ _ _ _ _ | show wpAny _ _ (eval (Expr.ListComp _ _ _ _) _) _ _ _ | show wpAny _ _ (eval (Expr.DictComp _ _ _ _ _) _) _ _ _ | show wpAny _ _ (exec (Stmt.Assign _ (Expr.ListComp _ _ _ _) _) _) _ _ _ | show wpAny _ _ (exec (Stmt.Assign _ (Expr.DictComp _ _ _ _ _) _) _) _ _ _ | show _ ≤ _)); (first | walk1 | (dsimp only; walk1)) <;> (try dsimp only)) | (leave1; try dsimp only) | fail "no step"))
    refine sq_set hk hk (D.cons d5) F1 N1 (fun h2 F2 N2 => ?_)
    clear F1 N1
    (repeat' (first | (k_unfold; (try dsimp only)) | ((fail_if_success (with_reducible first | show wpAny _ _ (PySem.call (Value.ref _) _) _ _ _ | show wpAny _ _ (pyIter (Value.ref _)) _ _ _ | show wpAny _ _ (exec (Stmt.For _ _ _ _ _) _) _ _ _ | show wpAny _ _ (subscriptTail _ _ _ _) _ _ _ | show DEnd _ _ _ _ _ _ _ _ _ _ _ _ _ _ | show wpAny _ _ (setItem _ _ _) _ _ _ | show wpAny _ _ (getItem _ _) _ _ _ | show LCg.CompSrc _ _ _ _ _ _ _ _ _ _ _ _ _ _ | show LCg.CompEnd _ _ _ _ _ _ _ _ _ _ _ _ _ _ | show wpAny _ _ (eval (Expr.ListComp _ _ _ _) _) _ _ _ | show wpAny _ _ (eval (Expr.DictComp _ _ _ _ _) _) _ _ _ | show wpAny _ _ (exec (Stmt.Assign _ (Expr.ListComp _ _ _ _) _) _) _ _ _ | show wpAny _ _ (exec (Stmt.Assign _ (Expr.DictComp _ _ _ _ _) _) _) _ _ _ | show _ ≤ _)); (first | walk1 | (dsimp only; walk1)) <;> (try dsimp only)) | (leave1; try dsimp only) | fail "no step"))
    refine ⟨h2, _, _, sqL SQ R (up2 V1 k k (q * q - sm * sm)) (up2 T1 k k _) tl, rfl, F2, cb_drop N2 sq_ni, sq_far l5, rfl, rfl, rfl, rfl, rfl, _, _, ?_, rfl⟩
    intro i j hi hj
    show (if i = k ∧ j = k then q * q - sm * sm else V1 i j) = if i = j ∧ i < k + 1 then q * q - sm * sm else V i j
    rw [hV i j hi hj]
    by_cases h1 : i = j
    · subst h1
      by_cases h2 : i = k
      · subst h2; simp
      · have e : i < k + 1 ↔ i < k := by (first | lia | omega)
        simp [h2, e]
    · have e : ¬ (i = k ∧ j = k) := fun e => h1 (e.1.trans e.2.symm)
      simp [h1, e]
  case j0 =>
    rintro m1 n1 ⟨a1, a2, a3, a4, a5, V1, T1, hV, rfl⟩ h1 tk1 F1 N1
    try dsimp only
    exact ret _ _ _ _ _ (fun i j hi hj => by rw [hV i j hi hj]; simp [hi]) (see5 F1 a1 a2 a3 a4 a5) N1
set_option maxHeartbeats 4000000 in
theorem ldPairs {stm rest : List Stmt} {scope : Scope} (hb : (stm, scope) = (((topFn 26).1.drop 5).take 1, (topFn 26).2))
    {dp un : Nat} {gd : Option (List Code)} {cn : PySem.Str} {cs : Scope} {L fa LL : Addr} {ccd : Value} {cl : List (PySem.Str × Addr)} {outer : List Env} {base gg : Heap} {m : PySem.Str → Option Value} {s : Shared} {E : Value → Shared → Prop} {Q : Flow → Shared → Prop} {ps : List PE} {k0 : Nat} {SQ P : Addr} {R : Nat → Addr} {V : Nat → Nat → Int} {T : Nat → Nat → Tok} {tl : Led} {q sm wd : Int} {tq ts tw : Tok} (BB : Below (ktrTop dp un gd cn cs L fa ccd cl outer) base (envX cn cs L fa ccd cl :: outer) gg) (XX : (Mine.hd.heap_1 w.params).In gg) (TT : Top p loose mean mg mb gg) (hC : Codes base) (hd : dp + 200 < recursionLimit) (hu : un + 8 * 200 < cLine) (hE : PassesOwn (model PySem.Challenge.rw_wy0040_01.row.toRowW.prog w) ((ktrTop dp un gd cn cs L fa ccd cl outer).deeper (envOfC "_law_divided" scope LL 276 (.ref 275))) (envOfC "_law_divided" scope LL 276 (.ref 275)) E) (D : SqD SQ R tl) (F : Fr gg LL s.heap fun y => if y = "q" then some (.int q tq) else if y = "s" then some (.int sm ts) else if y = "width" then some (.int wd tw) else if y = "square" then some (.ref SQ) else if y = "pairs" then some (.ref P) else m y)
    (N : News gg LL s.heap (sqL SQ R V T tl)) (hP : (P, lstC (ps.map PE.ref) k0) ∈ tl) (hps : ∀ e ∈ ps, gg.get? e.a = some (tupO [.int e.n e.tn, .int e.f e.tf])) (hpr : In3 (ps.map PE.nf)) (hV : ∀ i j, i < 3 → j < 3 → V i j = ent q sm [] i j)
    (ret : ∀ h' tk V' T' (m' : PySem.Str → Option Value), (∀ i j, i < 3 → j < 3 → V' i j = ent q sm (ps.map PE.nf) i j) → Fr gg LL h' (fun y => if y = "q" then some (.int q tq) else if y = "s" then some (.int sm ts) else if y = "width" then some (.int wd tw) else if y = "square" then some (.ref SQ) else m' y) → News gg LL h' (sqL SQ R V' T' tl) →
      wpAny (model PySem.Challenge.rw_wy0040_01.row.toRowW.prog w) ((ktrTop dp un gd cn cs L fa ccd cl outer).deeper (envOfC "_law_divided" scope LL 276 (.ref 275))) (execs rest (envOfC "_law_divided" scope LL 276 (.ref 275))) Q E { s with heap := h', toks := tk }) :
    wpAny (model PySem.Challenge.rw_wy0040_01.row.toRowW.prog w) ((ktrTop dp un gd cn cs L fa ccd cl outer).deeper (envOfC "_law_divided" scope LL 276 (.ref 275))) (execs (stm ++ rest) (envOfC "_law_divided" scope LL 276 (.ref 275))) Q E s := by
  conv at hb => {rhs; arg 1; whnf}
  conv at hb => {rhs; arg 2; whnf}
  simp only [Prod.mk.injEq] at hb
  obtain ⟨rfl, rfl⟩ := hb
  try simp only [List.take_succ_cons, List.take_zero, List.cons_append, List.nil_append]
  try dsimp only
  (repeat' (first | (k_unfold; (try dsimp only)) | ((fail_if_success (with_reducible first | show wpAny _ _ (PySem.call (Value.ref _) _) _ _ _ | show wpAny _ _ (pyIter (Value.ref _)) _ _ _ | show wpAny _ _ (exec (Stmt.For _ _ _ _ _) _) _ _ _ | show LCg.CompSrc _ _ _ _ _ _ _ _ _ _ _ _ _ _ | show LCg.CompEnd _ _ _ _ _ _ _ _ _ _ _ _ _ _ | show wpAny _ _ (eval (Expr.ListComp _ _ _ _) _) _ _ _ | show wpAny _ _ (eval (Expr.DictComp _ _ _ _ _) _) _ _ _ | show wpAny _ _ (exec (Stmt.Assign _ (Expr.ListComp _ _ _ _) _) _) _ _ _ | show wpAny _ _ (exec (Stmt.Assign _ (Expr.DictComp _ _ _ _ _) _) _) _ _ _ | show _ ≤ _)); (first | walk1 | (dsimp only; walk1)) <;> (try dsimp only)) | (leave1; try dsimp only) | fail "no step"))
  with_unfolding_all refine' For_turns F ?_ (hE := hE)
  k_whole
  (repeat' (first | (k_unfold; (try dsimp only)) | ((fail_if_success (with_reducible first | show wpAny _ _ (PySem.call (Value.ref _) _) _ _ _ | show wpAny _ _ (pyIter (Value.ref _)) _ _ _ | show wpAny _ _ (exec (Stmt.For _ _ _ _ _) _) _ _ _ | show LCg.CompSrc _ _ _ _ _ _ _ _ _ _ _ _ _ _ | show LCg.CompEnd _ _ _ _ _ _ _ _ _ _ _ _ _ _ | show wpAny _ _ (eval (Expr.ListComp _ _ _ _) _) _ _ _ | show wpAny _ _ (eval (Expr.DictComp _ _ _ _ _) _) _ _ _ | show wpAny _ _ (exec (Stmt.Assign _ (Expr.ListComp _ _ _ _) _) _) _ _ _ | show wpAny _ _ (exec (Stmt.Assign _ (Expr.DictComp _ _ _ _ _) _) _) _ _ _ | show _ ≤ _)); (first | walk1 | (dsimp only; walk1)) <;> (try dsimp only)) | (leave1; try dsimp only) | fail "no step"))
  (rename Fr _ _ _ _ => lF2); (rename News _ _ _ _ => lN2)
  with_unfolding_all refine iter_listTurns (lo := lstC (ps.map PE.ref) k0) (vs := ps.map PE.ref) (n := k0) (by rfl) lF2 lN2 (.tail _ (.tail _ (.tail _ (.tail _ hP)))) (by rfl) (by rfl) ?_
  intro i5 l5
  have d5 := sq_off fun p hp => Nat.ne_of_lt (l5 p hp)
  refine turns_ind PE.ref (PrJ ps q sm wd tq ts tw SQ R tl) ?t0 ?t1 _ _ _ ?ti
  case ti => exact ⟨rfl, rfl, rfl, rfl, [], V, T, rfl, hV, rfl⟩
  case t1 =>
    clear ret lF2 lN2
    rintro ⟨ea, en, etn, ef, etf⟩ r m1 n1 ⟨a1, a2, a3, a4, pre, V1, T1, hpre, hV1, rfl⟩ it h1 tk1 hcl F1 N1
    have hem : (⟨ea, en, etn, ef, etf⟩ : PE) ∈ ps := by rw [hpre]; simp
    have hT : IsTup h1 ea #[.int en etn, .int ef etf] := ⟨_, F1.keep _ _ (hps _ hem), rfl, 0, rfl⟩
    obtain ⟨g1, g2, g3, g4⟩ := hpr (en, ef) (List.mem_map.mpr ⟨_, hem, rfl⟩)
    dsimp only at g1 g2 g3 g4
    obtain ⟨a, rfl⟩ := Int.eq_ofNat_of_zero_le g1
    obtain ⟨b, rfl⟩ := Int.eq_ofNat_of_zero_le g3
    have ha : a < 3 := by (first | lia | omega)
    have hb3 : b < 3 := by (first | lia | omega)
    replace F1 : Fr gg LL h1 (fun y => if y = "q" then some (.int q tq) else if y = "s" then some (.int sm ts) else if y = "width" then some (.int wd tw) else if y = "square" then some (.ref SQ) else m1 y) := see4 F1 a1 a2 a3 a4
    replace N1 : News gg LL h1 (sqL SQ R V1 T1 (_ :: tl)) := cb_drop N1 sq_in
    walk1
    walk1
    try dsimp only
    walk1
    walk1
    try dsimp only
    walk1
    walk1
    walk1
    first | walk1 | (dsimp only; walk1)
    refine ldPair (stm := forBody 5 (topFn 26).1) (rest := []) rfl ha hb3 (D.cons d5) (by k_asm) (by k_asm) ?_
    intro h2 tk2 V2 T2 hV2 F2 N2
    (repeat' (first | (k_unfold; (try dsimp only)) | ((fail_if_success (with_reducible first | show wpAny _ _ (PySem.call (Value.ref _) _) _ _ _ | show wpAny _ _ (pyIter (Value.ref _)) _ _ _ | show wpAny _ _ (exec (Stmt.For _ _ _ _ _) _) _ _ _ | show LCg.CompSrc _ _ _ _ _ _ _ _ _ _ _ _ _ _ | show LCg.CompEnd _ _ _ _ _ _ _ _ _ _ _ _ _ _ | show wpAny _ _ (eval (Expr.ListComp _ _ _ _) _) _ _ _ | show wpAny _ _ (eval (Expr.DictComp _ _ _ _ _) _) _ _ _ | show wpAny _ _ (exec (Stmt.Assign _ (Expr.ListComp _ _ _ _) _) _) _ _ _ | show wpAny _ _ (exec (Stmt.Assign _ (Expr.DictComp _ _ _ _ _) _) _) _ _ _ | show _ ≤ _ | show UnrEnd _ _ _ _ _ _ _ | show UnrPost _ _ _ _ _ _ _ _ _ | show UnrEndW _ _ _ _ _ _)); (first | walk1 | (dsimp only; walk1)) <;> (try dsimp only)) | (leave1; try dsimp only) | fail "no step"))
    refine ⟨h2, tk2, _, sqL SQ R V2 T2 tl, rfl, F2, fun p hp => cb_drop N2 sq_ni p hp, fun p hp q hq => by rw [List.mem_singleton.mp hq]; exact sq_far l5 p hp, ⟨.tail _ (.tail _ (.tail _ (.tail _ hP))), trivial⟩, rfl, rfl, rfl, rfl, pre ++ [⟨ea, _, etn, _, etf⟩], V2, T2, by rw [hpre, List.append_assoc]; rfl, ?_, rfl⟩
    intro i j hi hj
    rw [List.map_append, List.map_cons, List.map_nil, ent_snoc, ← hV1 i j hi hj, hV2]
    generalize e1 : up2 V1 a a (V1 a a + sm) = W1
    generalize e2 : up2 W1 b b (W1 b b + sm) = W2
    generalize e3 : up2 W2 a b (W2 a b - q) = W3
    rw [Int.sub_eq_add_neg, up2_add, ← e3, Int.sub_eq_add_neg, up2_add, ← e2, up2_add, ← e1, up2_add, dl_is]
    simp only [Int.add_assoc]
  case t0 =>
    rintro m1 n1 ⟨a1, a2, a3, a4, pre, V1, T1, hpre, hV1, rfl⟩ h1 tk1 F1 N1
    rw [List.append_nil] at hpre
    subst hpre
    try dsimp only
    exact ret _ _ _ _ _ hV1 (see4 F1 a1 a2 a3 a4) N1
end
end
theorem offLDk : True := by
  w_top off
  exact True.intro
section
open PySem PySem.W PySem.Spec PySem.Calls PyProof.Rows
section
variable {w : World} {p : Program} {loose : List PySem.Str} {mean : ExcName → Option Value} {mg mb : PySem.Str → Option Value}
theorem sq_mk {h₀ h : Heap} {L SQ R0 R1 R2 : Addr} {t0 t1 t2 t3 t4 t5 t6 t7 t8 : Tok} {tl : Led} (N : News h₀ L h ((SQ, lstO [.ref R0, .ref R1, .ref R2]) :: (R2, lstO [.int 0 t6, .int 0 t7, .int 0 t8]) :: (R1, lstO [.int 0 t3, .int 0 t4, .int 0 t5]) :: (R0, lstO [.int 0 t0, .int 0 t1, .int 0 t2]) :: tl)) :
    ∃ R T, R 0 = R0 ∧ R 1 = R1 ∧ R 2 = R2 ∧ News h₀ L h (sqL SQ R (fun _ _ => 0) T tl) := ⟨fun i => [R0, R1, R2].getD i 0, fun i j => ([[t0, t1, t2], [t3, t4, t5], [t6, t7, t8]].getD i []).getD j 0, rfl, rfl, rfl, N⟩
set_option maxHeartbeats 4000000 in
theorem ldStart {stm rest : List Stmt} {scope : Scope} (hb : (stm, scope) = (((topFn 26).1).take 4, (topFn 26).2))
    {dp un : Nat} {gd : Option (List Code)} {cn : PySem.Str} {cs : Scope} {L fa LL : Addr} {ccd : Value} {cl : List (PySem.Str × Addr)} {outer : List Env} {base gg : Heap} {m : PySem.Str → Option Value} {s : Shared} {E : Value → Shared → Prop} {Q : Flow → Shared → Prop} {P : Addr} {o1 o2 oP : Obj} {n : Nat} {price : Int} {tp tw : Tok} (BB : Below (ktrTop dp un gd cn cs L fa ccd cl outer) base (envX cn cs L fa ccd cl :: outer) gg) (XX : (Mine.hd.heap_1 w.params).In gg) (TT : Top p loose mean mg mb gg) (hC : Codes base) (hd : dp + 200 < recursionLimit) (hu : un + 8 * 200 < cLine) (h47 : @LT.lt Nat _ 47 LL) (h54 : @LT.lt Nat _ 54 LL) (hP : @LT.lt Nat _ P LL)
    (F : Fr gg LL s.heap fun y => if y = "pairs" then some (.ref P) else if y = "price" then some (.int price tp) else if y = "width" then some (.int (n : Int) tw) else m y)
    (N : News gg LL s.heap ((LL + 1 + 1, o1) :: (LL + 1, o2) :: (47, tabObj #[]) :: (54, tabObj #[]) :: (P, oP) :: [])) (c2 : o2.data = .cell none) (hn2 : n ≤ 1000) (hs : Builtin.Int.intBits (1 - price) ≤ 64)
    (hq : Builtin.Int.intBits ((2 : Int) ^ ((n : Int)).toNat) ≤ 1001) (hp1 : -3 ≤ price) (hp2 : price ≤ 4)
    (ret : ∀ h' tk q tq ts SQ R T oh th (m' : PySem.Str → Option Value), q = 2 ^ n → oh.data = .cell (some (.int (q.fdiv 2) th)) → SqD SQ R ((LL + 1 + 1, o1) :: (LL + 1, oh) :: (47, tabObj #[]) :: (54, tabObj #[]) :: (P, oP) :: []) →
      Fr gg LL h' (fun y => if y = "q" then some (.int q tq) else if y = "s" then some (.int (1 - price) ts) else if y = "width" then some (.int (n : Int) tw) else if y = "square" then some (.ref SQ) else if y = "pairs" then some (.ref P) else m' y) → News gg LL h' (sqL SQ R (fun _ _ => 0) T ((LL + 1 + 1, o1) :: (LL + 1, oh) :: (47, tabObj #[]) :: (54, tabObj #[]) :: (P, oP) :: [])) →
      wpAny (model PySem.Challenge.rw_wy0040_01.row.toRowW.prog w) ((ktrTop dp un gd cn cs L fa ccd cl outer).deeper (envOfC "_law_divided" scope LL 276 (.ref 275))) (execs rest (envOfC "_law_divided" scope LL 276 (.ref 275))) Q E { s with heap := h', toks := tk }) :
    wpAny (model PySem.Challenge.rw_wy0040_01.row.toRowW.prog w) ((ktrTop dp un gd cn cs L fa ccd cl outer).deeper (envOfC "_law_divided" scope LL 276 (.ref 275))) (execs (stm ++ rest) (envOfC "_law_divided" scope LL 276 (.ref 275))) Q E s := by
  conv at hb => {rhs; arg 1; whnf}
  conv at hb => {rhs; arg 2; whnf}
  simp only [Prod.mk.injEq] at hb
  obtain ⟨rfl, rfl⟩ := hb
  revert XX
  k_fill
  intro XX
  try simp only [List.take_succ_cons, List.take_zero, List.cons_append, List.nil_append]
  try dsimp only
  (repeat' (first | (k_unfold; (try dsimp only)) | ((fail_if_success (with_reducible first | show wpAny _ _ (PySem.call (Value.ref _) _) _ _ _ | show wpAny _ _ (pyIter (Value.ref _)) _ _ _ | show wpAny _ _ (exec (Stmt.For _ _ _ _ _) _) _ _ _ | show LCg.CompSrc _ _ _ _ _ _ _ _ _ _ _ _ _ _ | show LCg.CompEnd _ _ _ _ _ _ _ _ _ _ _ _ _ _ | show wpAny _ _ (eval (Expr.ListComp _ _ _ _) _) _ _ _ | show wpAny _ _ (eval (Expr.DictComp _ _ _ _ _) _) _ _ _ | show wpAny _ _ (exec (Stmt.Assign _ (Expr.ListComp _ _ _ _) _) _) _ _ _ | show wpAny _ _ (exec (Stmt.Assign _ (Expr.DictComp _ _ _ _ _) _) _) _ _ _ | show _ ≤ _)); (first | walk1 | (dsimp only; walk1)) <;> (try dsimp only)) | (leave1; try dsimp only) | fail "no step"))
  (rename Fr _ _ _ _ => lF); (rename News _ _ _ _ => lN)
  obtain ⟨R, T, e0, e1, e2, hN⟩ := sq_mk lN
  refine ret _ _ _ _ _ _ R T _ _ _ ?_ (by assumption) ⟨by rw [e0, e1]; k_ne, by rw [e0, e2]; k_ne, by rw [e1, e2]; k_ne, fun i hi => cas3 (P := fun i => @Ne Nat _ (R i)) hi (by rw [e0]; k_ne) (by rw [e1]; k_ne) (by rw [e2]; k_ne),
    fun i hi => cas3 (P := fun i => ∀ p ∈ (_ : Led), @Ne Nat p.1 (R i)) hi (by rw [e0]; (repeat' first | exact List.forall_mem_nil _ | assumption | refine List.forall_mem_cons.mpr ⟨?_, ?_⟩ | k_ne)) (by rw [e1]; (repeat' first | exact List.forall_mem_nil _ | assumption | refine List.forall_mem_cons.mpr ⟨?_, ?_⟩ | k_ne)) (by rw [e2]; (repeat' first | exact List.forall_mem_nil _ | assumption | refine List.forall_mem_cons.mpr ⟨?_, ?_⟩ | k_ne))⟩ (see5 lF rfl rfl rfl rfl rfl) hN
  rw [Int.toNat_natCast]
end
end
theorem offLDm : True := by
  w_top off
  exact True.intro
section
open PySem PySem.W PySem.Spec PySem.Calls PyProof.Rows
section
variable {w : World} {p : Program} {loose : List PySem.Str} {mean : ExcName → Option Value} {mg mb : PySem.Str → Option Value}
theorem cut {α : Type} (l : List α) (i k : Nat) : l.drop i = (l.drop i).take k ++ l.drop (i + k) := by rw [← List.drop_drop, List.take_append_drop]
set_option maxHeartbeats 4000000 in
theorem ldAll {ps : List PE} {k0 : Nat} {P : Addr} {price : Int} {tp tw : Tok} {n : Nat} {o1 o2 : Obj} {dp un : Nat} {gd : Option (List Code)} {cn : PySem.Str} {cs : Scope} {L fa LL : Addr} {ccd : Value} {cl : List (PySem.Str × Addr)} {outer : List Env} {base gg : Heap} {m : PySem.Str → Option Value} {s : Shared} {E : Value → Shared → Prop} {Q : Flow → Shared → Prop} (BB : Below (ktrTop dp un gd cn cs L fa ccd cl outer) base (envX cn cs L fa ccd cl :: outer) gg) (XX : (Mine.hd.heap_1 w.params).In gg) (TT : Top p loose mean mg mb gg) (hC : Codes base) (hd : dp + 200 < recursionLimit) (hu : un + 8 * 200 < cLine) (hE : PassesOwn (model PySem.Challenge.rw_wy0040_01.row.toRowW.prog w) ((ktrTop dp un gd cn cs L fa ccd cl outer).deeper (envOfC "_law_divided" (topFn 26).2 LL 276 (.ref 275))) (envOfC "_law_divided" (topFn 26).2 LL 276 (.ref 275)) E)
    (hp4 : ps.length = 4) (hpr : In3 (ps.map PE.nf)) (hn : 32 ≤ n) (hn2 : n ≤ 1000) (hs1 : -3 ≤ price) (hs2 : price ≤ 4) (dP1 : @Ne Nat 47 P) (dP2 : @Ne Nat 54 P) (hps : ∀ e ∈ ps, gg.get? e.a = some (tupO [.int e.n e.tn, .int e.f e.tf]))
    (h47 : @LT.lt Nat _ 47 LL) (h54 : @LT.lt Nat _ 54 LL) (hP : @LT.lt Nat _ P LL)
    (F : Fr gg LL s.heap fun y => if y = "pairs" then some (.ref P) else if y = "price" then some (.int price tp) else if y = "width" then some (.int (n : Int) tw) else m y)
    (N : News gg LL s.heap ((LL + 1 + 1, o1) :: (LL + 1, o2) :: (47, tabObj #[]) :: (54, tabObj #[]) :: (P, lstC (ps.map PE.ref) k0) :: [])) (q1 : o1.data = .cell none) (q2 : o2.data = .cell none)
    (ret : ∀ h' tk (m' : PySem.Str → Option Value) RR ys c1 oc1 c2 oc2 oh, @LT.lt Nat _ (LL + 1) c2 → @LT.lt Nat _ c2 c1 → CodeAt q47 oc1 → CodeAt q54 oc2 → IntsAre ys (outL (p5P (ps.map PE.nf) (1 - price))) → Fr gg LL h' m' → News gg LL h' ((RR, LCg.lst ys) :: (47, tab47 c1) :: (c1, oc1) :: (54, tab54 c2) :: (c2, oc2) :: (P, lstC (ps.map PE.ref) k0) :: []) →
      (∀ q ∈ (LL + 1, oh) :: (47, tab47 c1) :: (c1, oc1) :: (54, tab54 c2) :: (c2, oc2) :: (P, lstC (ps.map PE.ref) k0) :: [], @Ne Nat q.1 RR) → Q (.ret (.ref RR)) { s with heap := h', toks := tk }) :
    wpAny (model PySem.Challenge.rw_wy0040_01.row.toRowW.prog w) ((ktrTop dp un gd cn cs L fa ccd cl outer).deeper (envOfC "_law_divided" (topFn 26).2 LL 276 (.ref 275))) (execs (topFn 26).1 (envOfC "_law_divided" (topFn 26).2 LL 276 (.ref 275))) Q E s := by
  have hqb : Builtin.Int.intBits ((2 : Int) ^ n) ≤ 1001 := Nat.le_trans (bits_of (m := n + 1) (Int.le_of_lt (kbt_pos n)) (by rw [Int.pow_succ]; have := kbt_pos n; (first | lia | omega))) (by (first | lia | omega))
  have hs : Builtin.Int.intBits (1 - price) ≤ 64 := intBits_le_64 (by (first | lia | omega)) (by (first | lia | omega))
  have hl4 : (ps.map PE.nf).length = 4 := by rw [List.length_map]; exact hp4
  have hg := goodP hpr (s := 1 - price) (by (first | lia | omega)) (by (first | lia | omega))
  rw [show (topFn 26).1 = (topFn 26).1.take 4 ++ (topFn 26).1.drop 4 from (List.take_append_drop ..).symm]
  refine ldStart rfl BB XX TT hC hd hu h47 h54 hP F N q2 hn2 hs (by rw [Int.toNat_natCast]; exact hqb) hs1 hs2 ?_
  intro h1 tk1 q tq ts SQ R T oh th m1 hq2 dh D F1 N1
  have hq : Builtin.Int.intBits q ≤ 1001 := by rw [hq2]; exact hqb
  have hhf : (2 : Int) ^ n = 2 * q.fdiv 2 := by
    have e : (2 : Int) ^ n = 2 * 2 ^ (n - 1) := by
      have : n = (n - 1) + 1 := by (first | lia | omega)
      conv => lhs; rw [this, Int.pow_succ, Int.mul_comm]
    rw [hq2, Int.fdiv_eq_ediv_of_nonneg _ (by decide)]
    (first | lia | omega)
  have hfb : 0 ≤ q.fdiv 2 ∧ q.fdiv 2 < 2 ^ n := by have := kbt_pos n; (first | lia | omega)
  have hfB : Builtin.Int.intBits (q.fdiv 2) ≤ 20000 := Nat.le_trans (bits_of hfb.1 hfb.2) (by (first | lia | omega))
  generalize q.fdiv 2 = hf at hhf hfb hfB dh
  rw [cut _ 4 1]
  refine ldDiag rfl BB XX TT hC hd hu hE D F1 N1 hq hs ?_
  intro h2 tk2 V2 T2 m2 hV2 F2 N2
  clear F1 N1
  rw [cut _ (4 + 1) 1]
  refine ldPairs rfl BB XX TT hC hd hu hE D F2 N2 (by (with_reducible repeat' first | exact List.mem_cons_self .. | refine List.mem_cons_of_mem _ ?_)) hps hpr (fun i j hi hj => by rw [hV2 i j hi hj]; simp [ent]) ?_
  intro h3 tk3 V3 T3 m3 hV3 F3 N3
  clear F2 N2 hV2
  have hb3 : ∀ i j, i < 3 → j < 3 → Builtin.Int.intBits (V3 i j) ≤ 2200 := fun i j hi hj => by rw [hV3 i j hi hj]; exact ent_bits hq hs hl4 i j
  rw [cut _ (4 + 1 + 1) 3]
  refine ldDet rfl F3 N3 TT hq hs (hb3 0 0 (by decide) (by decide)) (hb3 0 1 (by decide) (by decide)) (hb3 0 2 (by decide) (by decide)) (hb3 1 0 (by decide) (by decide)) (hb3 1 1 (by decide) (by decide)) (hb3 1 2 (by decide) (by decide)) (hb3 2 0 (by decide) (by decide)) (hb3 2 1 (by decide) (by decide)) (hb3 2 2 (by decide) (by decide)) ?_
  intro h4 tk4 tv m4 dv hdv F4 N4
  clear F3 N3 hb3
  replace hdv : dv = hor (2 ^ n) (c8P (ps.map PE.nf) (1 - price)) := by
    rw [hdv, hV3 0 0 (by decide) (by decide), hV3 0 1 (by decide) (by decide), hV3 0 2 (by decide) (by decide), hV3 1 0 (by decide) (by decide), hV3 1 1 (by decide) (by decide), hV3 1 2 (by decide) (by decide), hV3 2 0 (by decide) (by decide), hV3 2 1 (by decide) (by decide), hV3 2 2 (by decide) (by decide), ← hq2]
    exact div_is hpr hl4
  have hDb : Builtin.Int.intBits dv ≤ 9000 := by rw [hdv]; exact (hor_bits hg hn hn2).2.1
  rw [cut _ (4 + 1 + 1 + 3) 2]
  refine ldFig rfl BB XX TT hC hd hu F4 N4 h47 h54 hP dP1 dP2 q1 dh hn hn2 hg hhf hdv hfB hDb ?_
  intro h5 tk5 c1 oc1 c2 oc2 lG vG oF k2 k1 j3 hc1 hc2 hF hvG F5 N5
  clear F4 N4
  have k3 : @LT.lt Nat _ (LL + 1) c2 := Nat.lt_of_succ_lt k2
  rw [cut _ (4 + 1 + 1 + 3 + 2) 1]
  refine ldSlope rfl BB XX TT hC hd hu h47 h54 hP dP1 dP2 k3 k1 hc1 hc2 dh hn hn2 hg hhf hfB F5 N5 k2 j3 hF hvG ?_
  intro h6 tk6 tsl F6 N6
  clear F5 N5
  have hsB := slopeL_bits (h := hf) hg
  have hslb : Builtin.Int.intBits (undig n (slopeL hf (c8P (ps.map PE.nf) (1 - price)))) ≤ 10000 := Nat.le_trans (undig_bits _ hsB) (by simp [slopeL]; (first | lia | omega))
  rw [cut _ (4 + 1 + 1 + 3 + 2 + 1) 1]
  refine ldWhole rfl BB XX TT hC hd hu h47 h54 hP dP1 dP2 k3 k1 hc1 hc2 dh hn hn2 hg hhf hfB F6 N6 hq2 hq hslb hDb ?_
  intro h7 tk7 twh m7 wh hwh F7 N7
  clear F6 N6
  have hw : wh = wholeOf n hf (c8P (ps.map PE.nf) (1 - price)) := by
    rw [hwh, hdv, hq2, Int.fdiv_eq_ediv_of_nonneg _ (by decide), wholeOf]
  rw [cut _ (4 + 1 + 1 + 3 + 2 + 1 + 1) 3]
  refine ldTold rfl BB XX TT hC hd hu h47 h54 hP dP1 dP2 k3 k1 hc1 hc2 dh hn hn2 hg hhf hfB F7 N7 hq2 hq hdv hw ?_
  intro h8 tk8 tto rm trm ha tha ti tti m8 hto hha hti F8 N8
  clear F7 N7
  obtain ⟨z1, z2, z3, z4⟩ := told_all (n := n) hg hn hhf
  have htb : Builtin.Int.intBits (undig n (toldL hf (p5P (ps.map PE.nf) (1 - price)))) ≤ 20000 := Nat.le_trans (bits_of (Int.le_of_lt z1) z4) (by (first | lia | omega))
  rw [cut _ (4 + 1 + 1 + 3 + 2 + 1 + 1 + 3) 1]
  refine ldHard rfl BB XX TT hC hd hu h47 h54 hP dP1 dP2 k3 k1 hc1 hc2 dh hn hn2 hg hhf hfB F8 N8 hq2 hq hto hha hti htb hDb ?_
  intro h9 tk9 m9 F9 N9
  clear F8 N8
  exact ldRet rfl BB XX TT hC hd hu h47 h54 hP dP1 dP2 k3 k1 hc1 hc2 dh hn hn2 hg hhf hfB F9 N9 (fun hh tk m' RR ys a1 a2 a3 a4 => ret hh tk m' RR ys c1 oc1 c2 oc2 oh k3 k1 hc1 hc2 a1 a2 a3 a4)
end
end
theorem offLD : True := by
  w_top off
  exact True.intro
section
open PySem PySem.W PySem.Spec PySem.Calls PyProof.Rows
section
variable {w : World} {p : Program} {loose : List PySem.Str} {mean : ExcName → Option Value} {mg mb : PySem.Str → Option Value}
inductive PLD (ps : List PE) (price : Int) (P : Addr) (k0 : Nat) (bd : Nat) (n' : Led) (R : Addr) : Prop
  | mk (c1 : Addr) (oc1 : Obj) (c2 : Addr) (oc2 : Obj) (out : List Value) (k : Nat) (h1 : @LT.lt Nat _ bd c1) (h2 : @LT.lt Nat _ bd c2) (h3 : @Ne Nat c1 c2) (h4 : @Ne Nat R c1) (h5 : @Ne Nat R c2) (h6 : CodeAt q47 oc1) (h7 : CodeAt q54 oc2) (h8 : IntsAre out (outL (p5P (ps.map PE.nf) (1 - price))))
      (e : n' = [(R, lstC out k), (47, tab47 c1), (c1, oc1), (54, tab54 c2), (c2, oc2), (P, lstC (ps.map PE.ref) k0)] ++ ps.map PE.obj)
set_option maxHeartbeats 4000000 in
theorem ldiv {ps : List PE} {k0 : Nat} {P : Addr} {price : Int} {tp tw : Tok} {n : Nat} (hp4 : ps.length = 4) (hpr : In3 (ps.map PE.nf)) (hn : 32 ≤ n) (hn2 : n ≤ 1000) (hs1 : -3 ≤ price) (hs2 : price ≤ 4) (dP1 : @Ne Nat 47 P) (dP2 : @Ne Nat 54 P) (dps : ∀ e ∈ ps, @Ne Nat P e.a ∧ @LT.lt Nat _ 54 e.a) :
    OkN w p loose mean mg mb 276 [.ref P, .int price tp, .int (n : Int) tw] 200 ([(47, tabObj #[]), (54, tabObj #[]), (P, lstC (ps.map PE.ref) k0)] ++ ps.map PE.obj)
      (PLD ps price P k0) := by
  unfold OkN
  k_fill
  intro dp un gd cn cs fa ccd cl outer A₀ base h₀ L m s rest Q E B F X N ap T hk hC hd hu hret
  have ap2 : Apart [(47, tabObj #[]), (54, tabObj #[]), (P, lstC (ps.map PE.ref) k0)] (ps.map PE.obj ++ rest) := apart_move ap (fun q hq q2 hq2 => by
    obtain ⟨e, hee, rfl⟩ := List.mem_map.mp hq2
    obtain ⟨y1, y2⟩ := dps e hee
    rcases List.mem_cons.mp hq with rfl | hq
    · show @Ne Nat 47 e.a; (first | lia | omega)
    rcases List.mem_cons.mp hq with rfl | hq
    · show @Ne Nat 54 e.a; (first | lia | omega)
    rcases List.mem_cons.mp hq with rfl | hq
    · exact y1
    cases hq)
  have N2 : News h₀ L s.heap ([(47, tabObj #[]), (54, tabObj #[]), (P, lstC (ps.map PE.ref) k0)] ++ (ps.map PE.obj ++ rest)) := by rw [← List.append_assoc]; exact N
  have hret2 := hret
  clear hret
  clear ap N
  have N := N2
  clear N2
  refine wpAny_call ?_
  (k_dflt (refine' code_defCR ?k1n48 ?k2n48 ?k3n48 ?k4n48 ?kapn48 ?k5n48 ?kAn48 ?kFn48 ?kKn48 ?k6n48 ?k7n48 ?k8n48 ?k9n48 ?kBn48 ?kDn48 ?_ ?c2n48 ?c3n48 ?c4n48; (case kAn48 | kFn48 => exact rfl); (case kKn48 | k4n48 | kapn48 => assumption); (case k1n48 | k2n48 | k3n48 | k5n48 => k_asm); (case k6n48 | k7n48 => k_is); (case k8n48 => (first | exact room1 (by assumption) rfl | exact room0 (by assumption) | ktr_room)); (case k9n48 => exact BindsTo.of_eq rfl); (case kBn48 => exact rfl); (case kDn48 => decide +kernel); (case c2n48 | c3n48 | c4n48 => exact rfl))); ktr_step
  rename_i gg LL hh0 tk0 FG F0 BB XX TT lr0 hRs hU h47 h54 hPL o1 o2 e1 e2 NC
  have q1 : o1.data = .cell none := by rw [e1]; kernel_rfl
  have q2 : o2.data = .cell none := by rw [e2]; kernel_rfl
  clear e1 e2
  refine ldAll (ps := ps) (k0 := k0) BB XX TT hC hd hu (by passes_own) hp4 hpr hn hn2 hs1 hs2 dP1 dP2 (fun e he => hRs _ (List.mem_append_left _ (List.mem_map_of_mem he))) h47 h54 hPL (see3 F0 rfl rfl rfl) NC q1 q2 ?_
  intro h1 tk1 m1 RR ys c1 oc1 c2 oc2 oh k3 k1 hc1 hc2 hys F1 N1 off
  try dsimp only
  (repeat' (first | (k_unfold; (try dsimp only)) | ((fail_if_success (with_reducible first | show wpAny _ _ (PySem.call (Value.ref _) _) _ _ _ | show wpAny _ _ (pyIter (Value.ref _)) _ _ _ | show wpAny _ _ (exec (Stmt.For _ _ _ _ _) _) _ _ _ | show LCg.CompSrc _ _ _ _ _ _ _ _ _ _ _ _ _ _ | show LCg.CompEnd _ _ _ _ _ _ _ _ _ _ _ _ _ _ | show wpAny _ _ (eval (Expr.ListComp _ _ _ _) _) _ _ _ | show wpAny _ _ (eval (Expr.DictComp _ _ _ _ _) _) _ _ _ | show wpAny _ _ (exec (Stmt.Assign _ (Expr.ListComp _ _ _ _) _) _) _ _ _ | show wpAny _ _ (exec (Stmt.Assign _ (Expr.DictComp _ _ _ _ _) _) _) _ _ _ | show _ ≤ _ | show UnrEnd _ _ _ _ _ _ _ | show UnrPost _ _ _ _ _ _ _ _ _ | show UnrEndW _ _ _ _ _ _)); (first | walk1 | (dsimp only; walk1)) <;> (try dsimp only)) | (leave1; try dsimp only) | fail "no step"))
  (rename Fr h₀ L _ _ => kF1); (rename News h₀ L _ _ => kN1)
  have k4 : @LT.lt Nat _ LL c2 := Nat.lt_of_succ_lt k3
  have hne : ∀ q ∈ ([(47, tabObj #[]), (54, tabObj #[]), (P, lstC (ps.map PE.ref) k0)] ++ ps.map PE.obj) ++ rest, @Ne Nat q.1 RR := fun q hq => by
    rw [List.append_assoc] at hq
    rcases List.mem_append.mp hq with hq | hq
    · rcases List.mem_cons.mp hq with rfl | hq
      · exact off (47, tab47 c1) (by (with_reducible repeat' first | exact List.mem_cons_self .. | refine List.mem_cons_of_mem _ ?_))
      rcases List.mem_cons.mp hq with rfl | hq
      · exact off (54, tab54 c2) (by (with_reducible repeat' first | exact List.mem_cons_self .. | refine List.mem_cons_of_mem _ ?_))
      rcases List.mem_cons.mp hq with rfl | hq
      · exact off (P, lstC (ps.map PE.ref) k0) (by (with_reducible repeat' first | exact List.mem_cons_self .. | refine List.mem_cons_of_mem _ ?_))
      cases hq
    · intro e
      have e' : q.1 = RR := e
      have z := hRs q hq
      rw [e', (N1 _ (List.mem_cons_self ..)).2.2] at z
      cases z
  have hR := rests (news := [(47, tabObj #[]), (54, tabObj #[]), (P, lstC (ps.map PE.ref) k0)]) (nn := [(RR, LCg.lst ys), (47, tab47 c1), (c1, oc1), (54, tab54 c2), (c2, oc2), (P, lstC (ps.map PE.ref) k0)]) (cb_drop kN1 (by (with_reducible repeat' first | exact List.forall_mem_nil _ | refine List.forall_mem_cons.mpr ⟨?_, ?_⟩ | exact List.mem_cons_self .. | refine List.mem_cons_of_mem _ ?_))) N hRs F1
  rw [← List.append_assoc] at hR
  exact hret2 LL RR _ _ _ (under_assoc hU) hne kF1 hR ⟨c1, oc1, c2, oc2, ys, ys.length, Nat.lt_trans k4 k1, k4, Nat.ne_of_gt k1, fun e => off (c1, oc1) (by (with_reducible repeat' first | exact List.mem_cons_self .. | refine List.mem_cons_of_mem _ ?_)) e.symm, fun e => off (c2, oc2) (by (with_reducible repeat' first | exact List.mem_cons_self .. | refine List.mem_cons_of_mem _ ?_)) e.symm, hc1, hc2, hys, rfl⟩
end
end
theorem offLA2 : True := by
  w_top off
  exact True.intro
section
open PySem PySem.W PySem.Spec PySem.Calls PyProof.Rows
section
variable {w : World} {p : Program} {loose : List PySem.Str} {mean : ExcName → Option Value} {mg mb : PySem.Str → Option Value}
theorem DistL.split2 {a b : Led} (h : DistL (a ++ b)) : ∀ p ∈ a, ∀ q ∈ b, @Ne Nat p.1 q.1 := fun p hp q hq => by
  unfold DistL at h
  rw [List.map_append, List.nodup_append] at h
  exact h.2.2 _ (List.mem_map_of_mem hp) _ (List.mem_map_of_mem hq)
set_option maxHeartbeats 4000000 in
theorem laTail {stm rest : List Stmt} {scope : Scope} (hb : (stm, scope) = (((forBody 5 (topFn 24).1).drop 4).take 1, (topFn 24).2)) {i : Nat} (hi : i < 8)
    {dp un : Nat} {gd : Option (List Code)} {cn : PySem.Str} {cs : Scope} {L fa LL : Addr} {ccd : Value} {cl : List (PySem.Str × Addr)} {outer : List Env} {base gg : Heap} {m : PySem.Str → Option Value} {s : Shared} {E : Value → Shared → Prop} {Q : Flow → Shared → Prop}
    {P xd dd ld xr dr lr la le : Addr} {td tr : Tok} {esD esR lsL lsE : List HE} {cD cR cL cE : Nat} {tl : Led} {ti tS tf t1 t2 t3 : Tok} {fw nm tw rd : PySem.Str}
    (BB : Below (ktrTop dp un gd cn cs L fa ccd cl outer) base (envX cn cs L fa ccd cl :: outer) gg) (XX : (Mine.hd.heap_1 w.params).In gg) (TT : Top p loose mean mg mb gg) (hC : Codes base) (hd : dp + 150 < recursionLimit) (hu : un + 8 * 150 < cLine)
    (cnm : Clean nm) (ctw : Clean tw) (crd : Clean rd) (crl : Clean (PySem.Txt.lower rd)) (ck : Clean (key i)) (lnm : nm.length ≤ 8) (ltw : tw.length ≤ 8) (lrd : rd.length ≤ 8) (lkk : (key i).length ≤ 8)
    (F : Fr gg LL s.heap fun y => if y = "road" then some (.str rd t3) else if y = "name" then some (.str nm t2) else if y = "towns" then some (.str tw t1) else if y = "forth" then some (.str fw tf) else if y = "i" then some (.int (0 + (i : Int)) ti) else if y = "steps" then some (.str stepsT tS) else if y = "pairs" then some (.ref P) else if y = "doors" then some (.ref xd) else if y = "roads" then some (.ref xr) else if y = "laid" then some (.ref la) else if y = "ends" then some (.ref le) else m y)
    (N : News gg LL s.heap ((ld, lstC (List.map HE.ref esD) cD) :: (xd, instObj 252 dd) :: (dd, hDict w ld td) :: (lr, lstC (List.map HE.ref esR) cR) :: (xr, instObj 252 dr) :: (dr, hDict w lr tr) :: (la, lstC (List.map HE.ref lsL) cL) :: (le, lstC (List.map HE.ref lsE) cE) :: tl))
    (nd : DistL ((ld, lstC (List.map HE.ref esD) cD) :: (xd, instObj 252 dd) :: (dd, hDict w ld td) :: (lr, lstC (List.map HE.ref esR) cR) :: (xr, instObj 252 dr) :: (dr, hDict w lr tr) :: (la, lstC (List.map HE.ref lsL) cL) :: (le, lstC (List.map HE.ref lsE) cE) :: tl))
    (hD : ∀ e ∈ esD, e.obj ∈ tl) (hR : ∀ e ∈ esR, e.obj ∈ tl) (hL : ∀ e ∈ lsL, e.obj ∈ tl) (hE : ∀ e ∈ lsE, e.obj ∈ tl)
    (nD : esD.length ≤ 8) (nR : esR.length ≤ 8) (nL : lsL.length ≤ 8) (nE : lsE.length ≤ 8) (lR : ∀ e ∈ esR, e.nm.length ≤ 8)
    (hfw : ∀ e : HE, e.nm = rd → e.vl = tw → ∃ tv, getOf (PySem.Txt.lower rd) (esR ++ [e]) = .str fw tv)
    (ret : ∀ h' tk D e7 e8 tv, Fr gg LL h' (fun y => if y = "answers" then some (.ref D) else if y = "road" then some (.str rd t3) else if y = "name" then some (.str nm t2) else if y = "towns" then some (.str tw t1) else if y = "forth" then some (.str fw tf) else if y = "i" then some (.int (0 + (i : Int)) ti) else if y = "steps" then some (.str stepsT tS) else if y = "pairs" then some (.ref P) else if y = "doors" then some (.ref xd) else if y = "roads" then some (.ref xr) else if y = "laid" then some (.ref la) else if y = "ends" then some (.ref le) else m y) → News gg LL h' ((D, lstO [.none, .none, .str fw tv]) :: (ld, lstC (List.map HE.ref (esD ++ [e7])) (cD + 1)) :: (xd, instObj 252 dd) :: (dd, hDict w ld td) :: (lr, lstC (List.map HE.ref (esR ++ [e8])) (cR + 1)) :: (xr, instObj 252 dr) :: (dr, hDict w lr tr) :: (la, lstC (List.map HE.ref lsL) cL) :: (le, lstC (List.map HE.ref lsE) cE) :: (e8.obj :: e7.obj :: tl)) → DistL ((D, lstO [.none, .none, .str fw tv]) :: (ld, lstC (List.map HE.ref (esD ++ [e7])) (cD + 1)) :: (xd, instObj 252 dd) :: (dd, hDict w ld td) :: (lr, lstC (List.map HE.ref (esR ++ [e8])) (cR + 1)) :: (xr, instObj 252 dr) :: (dr, hDict w lr tr) :: (la, lstC (List.map HE.ref lsL) cL) :: (le, lstC (List.map HE.ref lsE) cE) :: (e8.obj :: e7.obj :: tl)) →
      e7.nm = nm → e7.vl = key i → e8.nm = rd → e8.vl = tw →
      wpAny (model PySem.Challenge.rw_wy0040_01.row.toRowW.prog w) ((ktrTop dp un gd cn cs L fa ccd cl outer).deeper (envOfC "_law_after" scope LL 266 (.ref 265))) (execs rest (envOfC "_law_after" scope LL 266 (.ref 265))) Q E { s with heap := h', toks := tk }) :
    wpAny (model PySem.Challenge.rw_wy0040_01.row.toRowW.prog w) ((ktrTop dp un gd cn cs L fa ccd cl outer).deeper (envOfC "_law_after" scope LL 266 (.ref 265))) (execs (stm ++ rest) (envOfC "_law_after" scope LL 266 (.ref 265))) Q E s := by
  conv at hb => {rhs; arg 1; whnf}
  conv at hb => {rhs; arg 2; whnf}
  simp only [Prod.mk.injEq] at hb
  obtain ⟨rfl, rfl⟩ := hb
  revert XX
  k_fill
  intro XX
  simp only [List.take_succ_cons, List.take_zero, List.cons_append, List.nil_append]
  try dsimp only
  (repeat' (first | (k_unfold; (try dsimp only)) | ((fail_if_success (with_reducible first | show wpAny _ _ (PySem.call (Value.ref _) _) _ _ _ | show wpAny _ _ (pyIter (Value.ref _)) _ _ _ | show wpAny _ _ (exec (Stmt.For _ _ _ _ _) _) _ _ _ | show wpAny _ _ (subscriptTail _ _ _ _) _ _ _ | show DEnd _ _ _ _ _ _ _ _ _ _ _ _ _ _ | show wpAny _ _ (setItem _ _ _) _ _ _ | show wpAny _ _ (getItem _ _) _ _ _ | show LCg.CompSrc _ _ _ _ _ _ _ _ _ _ _ _ _ _ | show LCg.CompEnd _ _ _ _ _ _ _ _ _ _ _ _ _ _ | show wpAny _ _ (eval (Expr.ListComp _ _ _ _) _) _ _ _ | show wpAny _ _ (eval (Expr.DictComp _ _ _ _ _) _) _ _ _ | show wpAny _ _ (exec (Stmt.Assign _ (Expr.ListComp _ _ _ _) _) _) _ _ _ | show wpAny _ _ (exec (Stmt.Assign _ (Expr.DictComp _ _ _ _ _) _) _) _ _ _ | show _ ≤ _)); (first | walk1 | (dsimp only; walk1)) <;> (try dsimp only)) | (leave1; try dsimp only) | fail "no step"))
  refine KXi.item (n := 8) (by rfl) (by (first | lia | omega)) (by (first | lia | omega)) (by decide) ?_
  intro _
  (repeat' (first | (k_unfold; (try dsimp only)) | ((fail_if_success (with_reducible first | show wpAny _ _ (PySem.call (Value.ref _) _) _ _ _ | show wpAny _ _ (pyIter (Value.ref _)) _ _ _ | show wpAny _ _ (exec (Stmt.For _ _ _ _ _) _) _ _ _ | show wpAny _ _ (subscriptTail _ _ _ _) _ _ _ | show DEnd _ _ _ _ _ _ _ _ _ _ _ _ _ _ | show wpAny _ _ (setItem _ _ _) _ _ _ | show wpAny _ _ (getItem _ _) _ _ _ | show LCg.CompSrc _ _ _ _ _ _ _ _ _ _ _ _ _ _ | show LCg.CompEnd _ _ _ _ _ _ _ _ _ _ _ _ _ _ | show wpAny _ _ (eval (Expr.ListComp _ _ _ _) _) _ _ _ | show wpAny _ _ (eval (Expr.DictComp _ _ _ _ _) _) _ _ _ | show wpAny _ _ (exec (Stmt.Assign _ (Expr.ListComp _ _ _ _) _) _) _ _ _ | show wpAny _ _ (exec (Stmt.Assign _ (Expr.DictComp _ _ _ _ _) _) _) _ _ _ | show _ ≤ _)); (first | walk1 | (dsimp only; walk1)) <;> (try dsimp only)) | (leave1; try dsimp only) | fail "no step"))
  have hke : PySem.Txt.item stepsT (0 + (i : Int)) = key i := by rw [Int.zero_add]; rfl
  rw [hke]
  have ndm := DistL.split2 (a := [(ld, lstC (List.map HE.ref esD) cD), (xd, instObj 252 dd), (dd, hDict w ld td), (lr, lstC (List.map HE.ref esR) cR), (xr, instObj 252 dr), (dr, hDict w lr tr), (la, lstC (List.map HE.ref lsL) cL), (le, lstC (List.map HE.ref lsE) cE)]) nd
  refine' Ok.use3 ?q1 F ?q3 N ?q5 ?q6 ?q7 (hadd (x := xd) (d := dd) (l := ld) (t := td) (vs := List.map HE.ref esD) (cp := cD) cnm ck (Nat.le_trans lkk (by decide)) (by rw [List.length_map]; exact Nat.le_trans nD (by decide)) ?d1 ?d2 ?d3) ?sub ?qd ?qu ?_
  case q1 => k_asm
  case q3 => k_asm
  case q5 => k_asm
  case q6 => exact rfl
  case q7 => assumption
  case d1 => exact (nd.tl.hd _ (List.mem_cons_self ..)).symm
  case d2 => exact nd.hd _ (List.mem_cons_self ..)
  case d3 => exact nd.hd _ (List.mem_cons_of_mem _ (List.mem_cons_self ..))
  case sub => (with_reducible repeat' first | exact List.forall_mem_nil _ | refine List.forall_mem_cons.mpr ⟨?_, ?_⟩ | exact List.mem_cons_self .. | refine List.mem_cons_of_mem _ ?_)
  case qd => (first | exact room1 (by assumption) rfl | exact room0 (by assumption) | ktr_room)
  case qu => (first | exact units1 (by assumption) rfl | ktr_units)
  intro b7 r7 n7 h7 tk7 U7 F7 N7 K7 hp7
  obtain ⟨T7, u7, lt7, rfl, rfl⟩ := hp7
  have M7 : News gg LL h7 ((T7, tupO [.str nm t2, .str (key i) u7]) :: (ld, lstC (List.map HE.ref esD ++ [Value.ref T7]) (cD + 1)) :: (xd, instObj 252 dd) :: (dd, hDict w ld td) :: (lr, lstC (List.map HE.ref esR) cR) :: (xr, instObj 252 dr) :: (dr, hDict w lr tr) :: (la, lstC (List.map HE.ref lsL) cL) :: (le, lstC (List.map HE.ref lsE) cE) :: tl) :=
    news_ch (ex := [(T7, tupO [.str nm t2, .str (key i) u7])]) (c' := (ld, lstC (List.map HE.ref esD ++ [Value.ref T7]) (cD + 1))) N nd.hd (by
      intro q hq
      simp only [List.mem_cons, List.not_mem_nil, or_false] at hq
      rcases hq with rfl | rfl | rfl
      · exact .inr ⟨List.mem_cons_self .., by (with_reducible repeat' first | exact List.mem_cons_self .. | refine List.mem_cons_of_mem _ ?_)⟩
      · exact .inr ⟨by (with_reducible repeat' first | exact List.mem_cons_self .. | refine List.mem_cons_of_mem _ ?_), by (with_reducible repeat' first | exact List.mem_cons_self .. | refine List.mem_cons_of_mem _ ?_)⟩
      · exact .inl rfl) (by (with_reducible repeat' first | exact List.mem_cons_self .. | refine List.mem_cons_of_mem _ ?_)) N7 rfl (show ∀ q ∈ [(T7, tupO [.str nm t2, .str (key i) u7]), (ld, lstC (List.map HE.ref esD ++ [Value.ref T7]) (cD + 1))], q ∈ _ by (with_reducible repeat' first | exact List.forall_mem_nil _ | refine List.forall_mem_cons.mpr ⟨?_, ?_⟩ | exact List.mem_cons_self .. | refine List.mem_cons_of_mem _ ?_)) K7
  clear N7 K7
  try dsimp only
  (repeat' (first | (k_unfold; (try dsimp only)) | ((fail_if_success (with_reducible first | show wpAny _ _ (PySem.call (Value.ref _) _) _ _ _ | show wpAny _ _ (pyIter (Value.ref _)) _ _ _ | show wpAny _ _ (exec (Stmt.For _ _ _ _ _) _) _ _ _ | show wpAny _ _ (subscriptTail _ _ _ _) _ _ _ | show DEnd _ _ _ _ _ _ _ _ _ _ _ _ _ _ | show wpAny _ _ (setItem _ _ _) _ _ _ | show wpAny _ _ (getItem _ _) _ _ _ | show LCg.CompSrc _ _ _ _ _ _ _ _ _ _ _ _ _ _ | show LCg.CompEnd _ _ _ _ _ _ _ _ _ _ _ _ _ _ | show wpAny _ _ (eval (Expr.ListComp _ _ _ _) _) _ _ _ | show wpAny _ _ (eval (Expr.DictComp _ _ _ _ _) _) _ _ _ | show wpAny _ _ (exec (Stmt.Assign _ (Expr.ListComp _ _ _ _) _) _) _ _ _ | show wpAny _ _ (exec (Stmt.Assign _ (Expr.DictComp _ _ _ _ _) _) _) _ _ _ | show _ ≤ _)); (first | walk1 | (dsimp only; walk1)) <;> (try dsimp only)) | (leave1; try dsimp only) | fail "no step"))
  have nd7 : DistL ((T7, tupO [.str nm t2, .str (key i) u7]) :: (ld, lstC (List.map HE.ref esD ++ [Value.ref T7]) (cD + 1)) :: (xd, instObj 252 dd) :: (dd, hDict w ld td) :: (lr, lstC (List.map HE.ref esR) cR) :: (xr, instObj 252 dr) :: (dr, hDict w lr tr) :: (la, lstC (List.map HE.ref lsL) cL) :: (le, lstC (List.map HE.ref lsE) cE) :: tl) :=
    List.nodup_cons.mpr ⟨fun hm => Nat.lt_irrefl _ (hlt_of_mem (fun q hq => Nat.lt_trans (U7 q hq) lt7) hm), nd⟩
  have off8 := nd7.mid (a := [(T7, tupO [.str nm t2, .str (key i) u7]), (ld, lstC (List.map HE.ref esD ++ [Value.ref T7]) (cD + 1)), (xd, instObj 252 dd), (dd, hDict w ld td)])
  have N7 := cb_drop (news := (lr, lstC (List.map HE.ref esR) cR) :: ([(T7, tupO [.str nm t2, .str (key i) u7]), (ld, lstC (List.map HE.ref esD ++ [Value.ref T7]) (cD + 1)), (xd, instObj 252 dd), (dd, hDict w ld td)] ++ ((xr, instObj 252 dr) :: (dr, hDict w lr tr) :: (la, lstC (List.map HE.ref lsL) cL) :: (le, lstC (List.map HE.ref lsE) cE) :: tl))) M7 (fun q hq => List.perm_middle.mem_iff.mpr hq)
  refine' Ok.use3 ?w1 F7 ?w3 N7 ?w5 ?w6 ?w7 (hadd (x := xr) (d := dr) (l := lr) (t := tr) (vs := List.map HE.ref esR) (cp := cR) crd ctw (Nat.le_trans ltw (by decide)) (by rw [List.length_map]; exact Nat.le_trans nR (by decide)) ?e1 ?e2 ?e3) ?sub ?wd ?wu ?_
  case w1 => k_asm
  case w3 => k_asm
  case w5 => k_asm
  case w6 => exact rfl
  case w7 => assumption
  case e1 => exact (nd.tl.tl.tl.tl.hd _ (List.mem_cons_self ..)).symm
  case e2 => exact nd.tl.tl.tl.hd _ (List.mem_cons_self ..)
  case e3 => exact nd.tl.tl.tl.hd _ (List.mem_cons_of_mem _ (List.mem_cons_self ..))
  case sub => ki_room
  case wd => (first | exact room1 (by assumption) rfl | exact room0 (by assumption) | ktr_room)
  case wu => (first | exact units1 (by assumption) rfl | ktr_units)
  intro b8 r8 n8 h8 tk8 U8 F8 N8 K8 hp8
  obtain ⟨T8, u8, lt8, rfl, rfl⟩ := hp8
  have M8 := news_ch (ex := [(T8, tupO [.str rd t3, .str tw u8])]) (c' := (lr, lstC (List.map HE.ref esR ++ [Value.ref T8]) (cR + 1))) N7 off8 (by
      intro q hq
      simp only [List.mem_cons, List.not_mem_nil, or_false] at hq
      rcases hq with rfl | rfl | rfl
      · exact .inr ⟨by kl_some, by (with_reducible repeat' first | exact List.mem_cons_self .. | refine List.mem_cons_of_mem _ ?_)⟩
      · exact .inr ⟨by kl_some, by (with_reducible repeat' first | exact List.mem_cons_self .. | refine List.mem_cons_of_mem _ ?_)⟩
      · exact .inl rfl) (by (with_reducible repeat' first | exact List.mem_cons_self .. | refine List.mem_cons_of_mem _ ?_)) N8 rfl (show ∀ q ∈ [(T8, tupO [.str rd t3, .str tw u8]), (lr, lstC (List.map HE.ref esR ++ [Value.ref T8]) (cR + 1))], q ∈ _ by (with_reducible repeat' first | exact List.forall_mem_nil _ | refine List.forall_mem_cons.mpr ⟨?_, ?_⟩ | exact List.mem_cons_self .. | refine List.mem_cons_of_mem _ ?_)) K8
  clear N8 K8
  try dsimp only
  simp only [List.cons_append, List.nil_append] at M8
  (repeat' (first | (k_unfold; (try dsimp only)) | ((fail_if_success (with_reducible first | show wpAny _ _ (PySem.call (Value.ref _) _) _ _ _ | show wpAny _ _ (pyIter (Value.ref _)) _ _ _ | show wpAny _ _ (exec (Stmt.For _ _ _ _ _) _) _ _ _ | show wpAny _ _ (subscriptTail _ _ _ _) _ _ _ | show DEnd _ _ _ _ _ _ _ _ _ _ _ _ _ _ | show wpAny _ _ (setItem _ _ _) _ _ _ | show wpAny _ _ (getItem _ _) _ _ _ | show LCg.CompSrc _ _ _ _ _ _ _ _ _ _ _ _ _ _ | show LCg.CompEnd _ _ _ _ _ _ _ _ _ _ _ _ _ _ | show wpAny _ _ (eval (Expr.ListComp _ _ _ _) _) _ _ _ | show wpAny _ _ (eval (Expr.DictComp _ _ _ _ _) _) _ _ _ | show wpAny _ _ (exec (Stmt.Assign _ (Expr.ListComp _ _ _ _) _) _) _ _ _ | show wpAny _ _ (exec (Stmt.Assign _ (Expr.DictComp _ _ _ _ _) _) _) _ _ _ | show _ ≤ _)); (first | walk1 | (dsimp only; walk1)) <;> (try dsimp only)) | (leave1; try dsimp only) | fail "no step"))
  obtain ⟨e7, he7⟩ : ∃ e7 : HE, e7 = ⟨T7, nm, t2, key i, u7⟩ := ⟨_, rfl⟩
  obtain ⟨e8, he8⟩ : ∃ e8 : HE, e8 = ⟨T8, rd, t3, tw, u8⟩ := ⟨_, rfl⟩
  have eR : List.map HE.ref esR ++ [Value.ref T8] = (esR ++ [e8]).map HE.ref := by rw [he8]; simp
  have eO : (T8, tupO [.str rd t3, .str tw u8]) = e8.obj := by rw [he8]
  rw [eR, eO] at M8
  obtain ⟨tv, hgv⟩ := hfw e8 (by rw [he8]) (by rw [he8])
  have hmR : ∀ q ∈ (esR ++ [e8]).map HE.obj, q ∈ e8.obj :: tl := fun q hq => by
    rw [List.map_append] at hq
    rcases List.mem_append.mp hq with hq | hq
    · obtain ⟨e, he, rfl⟩ := List.mem_map.mp hq
      exact List.mem_cons_of_mem _ (hR e he)
    · rw [List.mem_singleton.mp hq]; exact List.mem_cons_self ..
  have hT8 : ∀ q ∈ (lr, lstC (List.map HE.ref esR) cR) :: ([(T7, tupO [.str nm t2, .str (key i) u7]), (ld, lstC (List.map HE.ref esD ++ [Value.ref T7]) (cD + 1)), (xd, instObj 252 dd), (dd, hDict w ld td)] ++ ((xr, instObj 252 dr) :: (dr, hDict w lr tr) :: (la, lstC (List.map HE.ref lsL) cL) :: (le, lstC (List.map HE.ref lsE) cE) :: tl)), @LT.lt Nat _ q.1 e8.a := fun q hq => by
    rw [he8]; exact Nat.lt_trans (U8 q hq) lt8
  have hcR : ∀ e ∈ esR ++ [e8], ∀ x : Addr × Obj, x ∈ [(lr, lstC (List.map HE.ref esR) cR), (xr, instObj 252 dr), (dr, hDict w lr tr)] → @Ne Nat x.1 e.a := fun e he x hx => by
    rcases List.mem_append.mp he with he | he
    · exact ndm x ((by ki_room : ∀ x ∈ [(lr, lstC (List.map HE.ref esR) cR), (xr, instObj 252 dr), (dr, hDict w lr tr)], x ∈ [(ld, lstC (List.map HE.ref esD) cD), (xd, instObj 252 dd), (dd, hDict w ld td), (lr, lstC (List.map HE.ref esR) cR), (xr, instObj 252 dr), (dr, hDict w lr tr), (la, lstC (List.map HE.ref lsL) cL), (le, lstC (List.map HE.ref lsE) cE)]) x hx) _ (hR e he)
    · rw [List.mem_singleton.mp he]
      exact Nat.ne_of_lt (hT8 x ((by ki_room : ∀ x ∈ [(lr, lstC (List.map HE.ref esR) cR), (xr, instObj 252 dr), (dr, hDict w lr tr)], x ∈ _) x hx))
  have hsub8 : ∀ q ∈ [(xr, instObj 252 dr), (dr, hDict w lr tr), (lr, lstC (List.map HE.ref (esR ++ [e8])) (cR + 1))] ++ (esR ++ [e8]).map HE.obj, q ∈ e8.obj :: (lr, lstC (List.map HE.ref (esR ++ [e8])) (cR + 1)) :: (T7, tupO [.str nm t2, .str (key i) u7]) :: (ld, lstC (List.map HE.ref esD ++ [Value.ref T7]) (cD + 1)) :: (xd, instObj 252 dd) :: (dd, hDict w ld td) :: (xr, instObj 252 dr) :: (dr, hDict w lr tr) :: (la, lstC (List.map HE.ref lsL) cL) :: (le, lstC (List.map HE.ref lsE) cE) :: tl := fun q hq => by
    rcases List.mem_append.mp hq with hq | hq
    · exact (by ki_room : ∀ q ∈ [(xr, instObj 252 dr), (dr, hDict w lr tr), (lr, lstC (List.map HE.ref (esR ++ [e8])) (cR + 1))], q ∈ e8.obj :: (lr, lstC (List.map HE.ref (esR ++ [e8])) (cR + 1)) :: (T7, tupO [.str nm t2, .str (key i) u7]) :: (ld, lstC (List.map HE.ref esD ++ [Value.ref T7]) (cD + 1)) :: (xd, instObj 252 dd) :: (dd, hDict w ld td) :: (xr, instObj 252 dr) :: (dr, hDict w lr tr) :: (la, lstC (List.map HE.ref lsL) cL) :: (le, lstC (List.map HE.ref lsE) cE) :: tl) q hq
    · rcases List.mem_cons.mp (hmR q hq) with rfl | hq
      · exact List.mem_cons_self ..
      · exact List.mem_cons_of_mem _ (List.mem_append_right [(lr, lstC (List.map HE.ref (esR ++ [e8])) (cR + 1)), (T7, tupO [.str nm t2, .str (key i) u7]), (ld, lstC (List.map HE.ref esD ++ [Value.ref T7]) (cD + 1)), (xd, instObj 252 dd), (dd, hDict w ld td), (xr, instObj 252 dr), (dr, hDict w lr tr), (la, lstC (List.map HE.ref lsL) cL), (le, lstC (List.map HE.ref lsE) cE)] hq)
  refine' Ok.use3 ?v1 F8 ?v3 M8 ?v5 ?v6 ?v7 (hset (te := t3) (x := xr) (d := dr) (l := lr) (t := tr) (cp := cR + 1) (es := esR ++ [e8]) crl ?f1 ?f2 ?f3 (fun e he => ⟨hcR e he (xr, instObj 252 dr) (by (with_reducible repeat' first | exact List.mem_cons_self .. | refine List.mem_cons_of_mem _ ?_)), hcR e he (dr, hDict w lr tr) (by (with_reducible repeat' first | exact List.mem_cons_self .. | refine List.mem_cons_of_mem _ ?_)), hcR e he (lr, lstC (List.map HE.ref esR) cR) (by (with_reducible repeat' first | exact List.mem_cons_self .. | refine List.mem_cons_of_mem _ ?_))⟩) ?f4 (Nat.le_trans lrd (by decide)) ?f5 hgv) ?sub ?vd ?vu ?_
  case v1 => k_asm
  case v3 => k_asm
  case v5 => k_asm
  case v6 => exact rfl
  case v7 => assumption
  case f1 => exact (nd.tl.tl.tl.tl.hd _ (List.mem_cons_self ..)).symm
  case f2 => exact nd.tl.tl.tl.hd _ (List.mem_cons_self ..)
  case f3 => exact nd.tl.tl.tl.hd _ (List.mem_cons_of_mem _ (List.mem_cons_self ..))
  case f4 => rw [List.length_append]; exact Nat.le_trans (Nat.add_le_add nR (Nat.le_refl 1)) (by decide)
  case f5 =>
    intro e he
    rcases List.mem_append.mp he with he | he
    · exact Nat.le_trans (lR e he) (by decide)
    · rw [List.mem_singleton.mp he, he8]; exact Nat.le_trans lrd (by decide)
  case sub => exact hsub8
  case vd => (first | exact room1 (by assumption) rfl | exact room0 (by assumption) | ktr_room)
  case vu => (first | exact units1 (by assumption) rfl | ktr_units)
  intro b9 r9 n9 h9 tk9 U9 F9 N9 K9 hp9
  obtain ⟨rfl, rfl⟩ := hp9
  have M9 := news_ro (ex := []) M8 hsub8 N9 K9
  simp only [List.nil_append] at M9
  have eD : List.map HE.ref esD ++ [Value.ref T7] = (esD ++ [e7]).map HE.ref := by rw [he7]; simp
  have eO7 : (T7, tupO [.str nm t2, .str (key i) u7]) = e7.obj := by rw [he7]
  have nd9 : DistL ((ld, lstC (List.map HE.ref (esD ++ [e7])) (cD + 1)) :: (xd, instObj 252 dd) :: (dd, hDict w ld td) :: (lr, lstC (List.map HE.ref (esR ++ [e8])) (cR + 1)) :: (xr, instObj 252 dr) :: (dr, hDict w lr tr) :: (la, lstC (List.map HE.ref lsL) cL) :: (le, lstC (List.map HE.ref lsE) cE) :: (e8.obj :: e7.obj :: tl)) := by
    have h7 := DistL.ins (a := [(ld, lstC (List.map HE.ref esD ++ [Value.ref T7]) (cD + 1)), (xd, instObj 252 dd), (dd, hDict w ld td), (lr, lstC (List.map HE.ref esR) cR), (xr, instObj 252 dr), (dr, hDict w lr tr), (la, lstC (List.map HE.ref lsL) cL), (le, lstC (List.map HE.ref lsE) cE)]) (b := tl) (d := (T7, tupO [.str nm t2, .str (key i) u7])) nd (fun q hq => ?_)
    have h8 := DistL.ins (a := [(ld, lstC (List.map HE.ref esD ++ [Value.ref T7]) (cD + 1)), (xd, instObj 252 dd), (dd, hDict w ld td), (lr, lstC (List.map HE.ref esR) cR), (xr, instObj 252 dr), (dr, hDict w lr tr), (la, lstC (List.map HE.ref lsL) cL), (le, lstC (List.map HE.ref lsE) cE)]) (d := e8.obj) h7 (fun q hq => hT8 q ((subB [[(lr, lstC (List.map HE.ref esR) cR)], [(T7, tupO [.str nm t2, .str (key i) u7])], [(ld, lstC (List.map HE.ref esD ++ [Value.ref T7]) (cD + 1))], [(xd, instObj 252 dd)], [(dd, hDict w ld td)], [(xr, instObj 252 dr)], [(dr, hDict w lr tr)], [(la, lstC (List.map HE.ref lsL) cL)], [(le, lstC (List.map HE.ref lsE) cE)], tl] 9 [2, 3, 4, 0, 5, 6, 7, 8, 1] 9 [0, 1, 2, 3, 4, 5, 6, 7, 8] rfl : ∀ q ∈ (ld, lstC (List.map HE.ref esD ++ [Value.ref T7]) (cD + 1)) :: (xd, instObj 252 dd) :: (dd, hDict w ld td) :: (lr, lstC (List.map HE.ref esR) cR) :: (xr, instObj 252 dr) :: (dr, hDict w lr tr) :: (la, lstC (List.map HE.ref lsL) cL) :: (le, lstC (List.map HE.ref lsE) cE) :: (T7, tupO [.str nm t2, .str (key i) u7]) :: tl, q ∈ (lr, lstC (List.map HE.ref esR) cR) :: (T7, tupO [.str nm t2, .str (key i) u7]) :: (ld, lstC (List.map HE.ref esD ++ [Value.ref T7]) (cD + 1)) :: (xd, instObj 252 dd) :: (dd, hDict w ld td) :: (xr, instObj 252 dr) :: (dr, hDict w lr tr) :: (la, lstC (List.map HE.ref lsL) cL) :: (le, lstC (List.map HE.ref lsE) cE) :: tl) q hq))
    rw [← eO7]
    exact h8
    case _ =>
      rcases List.mem_cons.mp hq with rfl | hq
      · exact Nat.lt_trans (U7 (ld, lstC (List.map HE.ref esD) cD) (List.mem_cons_self ..)) lt7
      · exact Nat.lt_trans (U7 q (List.mem_cons_of_mem _ hq)) lt7
  replace M9 := cb_drop (news := (ld, lstC (List.map HE.ref (esD ++ [e7])) (cD + 1)) :: (xd, instObj 252 dd) :: (dd, hDict w ld td) :: (lr, lstC (List.map HE.ref (esR ++ [e8])) (cR + 1)) :: (xr, instObj 252 dr) :: (dr, hDict w lr tr) :: (la, lstC (List.map HE.ref lsL) cL) :: (le, lstC (List.map HE.ref lsE) cE) :: (e8.obj :: e7.obj :: tl)) M9 (by
    rw [← eD, ← eO7]
    exact (subB [[e8.obj], [(lr, lstC (List.map HE.ref (esR ++ [e8])) (cR + 1))], [(T7, tupO [.str nm t2, .str (key i) u7])], [(ld, lstC (List.map HE.ref esD ++ [Value.ref T7]) (cD + 1))], [(xd, instObj 252 dd)], [(dd, hDict w ld td)], [(xr, instObj 252 dr)], [(dr, hDict w lr tr)], [(la, lstC (List.map HE.ref lsL) cL)], [(le, lstC (List.map HE.ref lsE) cE)], tl] 10 [3, 4, 5, 1, 6, 7, 8, 9, 0, 2] 10 [0, 1, 2, 3, 4, 5, 6, 7, 8, 9] rfl : ∀ q ∈ (ld, lstC (List.map HE.ref esD ++ [Value.ref T7]) (cD + 1)) :: (xd, instObj 252 dd) :: (dd, hDict w ld td) :: (lr, lstC (List.map HE.ref (esR ++ [e8])) (cR + 1)) :: (xr, instObj 252 dr) :: (dr, hDict w lr tr) :: (la, lstC (List.map HE.ref lsL) cL) :: (le, lstC (List.map HE.ref lsE) cE) :: e8.obj :: (T7, tupO [.str nm t2, .str (key i) u7]) :: tl, q ∈ e8.obj :: (lr, lstC (List.map HE.ref (esR ++ [e8])) (cR + 1)) :: (T7, tupO [.str nm t2, .str (key i) u7]) :: (ld, lstC (List.map HE.ref esD ++ [Value.ref T7]) (cD + 1)) :: (xd, instObj 252 dd) :: (dd, hDict w ld td) :: (xr, instObj 252 dr) :: (dr, hDict w lr tr) :: (la, lstC (List.map HE.ref lsL) cL) :: (le, lstC (List.map HE.ref lsE) cE) :: tl))
  clear N9 K9 M8 N7 M7 hsub8 hcR hmR hT8
  try dsimp only
  (repeat' (first | (k_unfold; (try dsimp only)) | ((fail_if_success (with_reducible first | show wpAny _ _ (PySem.call (Value.ref _) _) _ _ _ | show wpAny _ _ (pyIter (Value.ref _)) _ _ _ | show wpAny _ _ (exec (Stmt.For _ _ _ _ _) _) _ _ _ | show wpAny _ _ (subscriptTail _ _ _ _) _ _ _ | show DEnd _ _ _ _ _ _ _ _ _ _ _ _ _ _ | show wpAny _ _ (setItem _ _ _) _ _ _ | show wpAny _ _ (getItem _ _) _ _ _ | show LCg.CompSrc _ _ _ _ _ _ _ _ _ _ _ _ _ _ | show LCg.CompEnd _ _ _ _ _ _ _ _ _ _ _ _ _ _ | show wpAny _ _ (eval (Expr.ListComp _ _ _ _) _) _ _ _ | show wpAny _ _ (eval (Expr.DictComp _ _ _ _ _) _) _ _ _ | show wpAny _ _ (exec (Stmt.Assign _ (Expr.ListComp _ _ _ _) _) _) _ _ _ | show wpAny _ _ (exec (Stmt.Assign _ (Expr.DictComp _ _ _ _ _) _) _) _ _ _ | show _ ≤ _)); (first | walk1 | (dsimp only; walk1)) <;> (try dsimp only)) | (leave1; try dsimp only) | fail "no step"))
  (rename Fr _ _ _ _ => lFz); (rename News _ _ _ _ => lNz)
  obtain ⟨DA, e⟩ := nmA0 lNz; subst e
  rename ∀ p ∈ (ld, lstC (List.map HE.ref (esD ++ [e7])) (cD + 1)) :: (xd, instObj 252 dd) :: (dd, hDict w ld td) :: (lr, lstC (List.map HE.ref (esR ++ [e8])) (cR + 1)) :: (xr, instObj 252 dr) :: (dr, hDict w lr tr) :: (la, lstC (List.map HE.ref lsL) cL) :: (le, lstC (List.map HE.ref lsE) cE) :: (e8.obj :: e7.obj :: tl), _ => lA1
  exact ret _ _ DA e7 e8 tv lFz lNz (nd9.cons lA1) (by rw [he7]) (by rw [he7]) (by rw [he8]) (by rw [he8])
end
end
theorem offLA3 : True := by
  w_top off
  exact True.intro
section
open PySem PySem.W PySem.Spec PySem.Calls PyProof.Rows
section
variable {w : World} {p : Program} {loose : List PySem.Str} {mean : ExcName → Option Value} {mg mb : PySem.Str → Option Value}
set_option maxHeartbeats 4000000 in
theorem laEnd {stm : List Stmt} {scope : Scope} (hb : (stm, scope) = ((forBody 5 (topFn 24).1).drop 5, (topFn 24).2)) {i : Nat} (hi : i < 8)
    {dp un : Nat} {gd : Option (List Code)} {cn : PySem.Str} {cs : Scope} {L fa LL : Addr} {ccd : Value} {cl : List (PySem.Str × Addr)} {outer : List Env} {base gg : Heap} {m : PySem.Str → Option Value} {s : Shared} {E : Value → Shared → Prop} {Q : Flow → Shared → Prop}
    {P xd xr la le D : Addr} {lsL lsE : List HE} {cL cE : Nat} {tl : Led} {ti tS tf t1 t2 t3 tv : Tok} {fw nm tw rd : PySem.Str}
    (BB : Below (ktrTop dp un gd cn cs L fa ccd cl outer) base (envX cn cs L fa ccd cl :: outer) gg) (XX : (Mine.hd.heap_1 w.params).In gg) (TT : Top p loose mean mg mb gg) (hC : Codes base) (hd : dp + 150 < recursionLimit) (hu : un + 8 * 150 < cLine)
    (ofw : PyData.strOk fw = true)
    (F : Fr gg LL s.heap fun y => if y = "answers" then some (.ref D) else if y = "road" then some (.str rd t3) else if y = "name" then some (.str nm t2) else if y = "towns" then some (.str tw t1) else if y = "forth" then some (.str fw tf) else if y = "i" then some (.int (0 + (i : Int)) ti) else if y = "steps" then some (.str stepsT tS) else if y = "pairs" then some (.ref P) else if y = "doors" then some (.ref xd) else if y = "roads" then some (.ref xr) else if y = "laid" then some (.ref la) else if y = "ends" then some (.ref le) else m y)
    (N : News gg LL s.heap ((D, lstO [.none, .none, .str fw tv]) :: (la, lstC (List.map HE.ref lsL) cL) :: (le, lstC (List.map HE.ref lsE) cE) :: tl))
    (nd : DistL ((D, lstO [.none, .none, .str fw tv]) :: (la, lstC (List.map HE.ref lsL) cL) :: (le, lstC (List.map HE.ref lsE) cE) :: tl))
    (nL : lsL.length ≤ 8) (nE : lsE.length ≤ 8)
    (ret : ∀ h' tk e9 e10, Fr gg LL h' (fun y => if y = "answers" then some (.ref D) else if y = "road" then some (.str rd t3) else if y = "name" then some (.str nm t2) else if y = "towns" then some (.str tw t1) else if y = "forth" then some (.str fw tf) else if y = "i" then some (.int (0 + (i : Int)) ti) else if y = "steps" then some (.str stepsT tS) else if y = "pairs" then some (.ref P) else if y = "doors" then some (.ref xd) else if y = "roads" then some (.ref xr) else if y = "laid" then some (.ref la) else if y = "ends" then some (.ref le) else m y) → News gg LL h' ((la, lstC (List.map HE.ref (lsL ++ [e9])) (cL + 1)) :: (le, lstC (List.map HE.ref (lsE ++ [e10])) (cE + 1)) :: (e10.obj :: e9.obj :: tl)) → DistL ((la, lstC (List.map HE.ref (lsL ++ [e9])) (cL + 1)) :: (le, lstC (List.map HE.ref (lsE ++ [e10])) (cE + 1)) :: (e10.obj :: e9.obj :: tl)) →
      e9.nm = nm → e9.vl = key i → e10.nm = rd → e10.vl = tw → Q .next { s with heap := h', toks := tk }) :
    wpAny (model PySem.Challenge.rw_wy0040_01.row.toRowW.prog w) ((ktrTop dp un gd cn cs L fa ccd cl outer).deeper (envOfC "_law_after" scope LL 266 (.ref 265))) (execs stm (envOfC "_law_after" scope LL 266 (.ref 265))) Q E s := by
  conv at hb => {rhs; arg 1; whnf}
  conv at hb => {rhs; arg 2; whnf}
  simp only [Prod.mk.injEq] at hb
  obtain ⟨rfl, rfl⟩ := hb
  revert XX
  k_fill
  intro XX
  (repeat' (first | (k_unfold; (try dsimp only)) | ((fail_if_success (with_reducible first | show wpAny _ _ (PySem.call (Value.ref _) _) _ _ _ | show wpAny _ _ (pyIter (Value.ref _)) _ _ _ | show wpAny _ _ (exec (Stmt.For _ _ _ _ _) _) _ _ _ | show wpAny _ _ (subscriptTail _ _ _ _) _ _ _ | show DEnd _ _ _ _ _ _ _ _ _ _ _ _ _ _ | show wpAny _ _ (setItem _ _ _) _ _ _ | show wpAny _ _ (getItem _ _) _ _ _ | show LCg.CompSrc _ _ _ _ _ _ _ _ _ _ _ _ _ _ | show LCg.CompEnd _ _ _ _ _ _ _ _ _ _ _ _ _ _ | show wpAny _ _ (eval (Expr.ListComp _ _ _ _) _) _ _ _ | show wpAny _ _ (eval (Expr.DictComp _ _ _ _ _) _) _ _ _ | show wpAny _ _ (exec (Stmt.Assign _ (Expr.ListComp _ _ _ _) _) _) _ _ _ | show wpAny _ _ (exec (Stmt.Assign _ (Expr.DictComp _ _ _ _ _) _) _) _ _ _ | show _ ≤ _)); (first | walk1 | (dsimp only; walk1)) <;> (try dsimp only)) | (leave1; try dsimp only) | fail "no step"))
  (rename News _ _ _ _ => lN1)
  refine kqd_ne_same lN1 (by (with_reducible repeat' first | exact List.mem_cons_self .. | refine List.mem_cons_of_mem _ ?_)) rfl rfl (n₁ := []) (.cons .none (.cons .none (.cons (.str _ _) .nil))) (fun _ h => nomatch h) (by (with_reducible repeat' first | exact List.mem_cons_self .. | refine List.mem_cons_of_mem _ ?_)) rfl rfl (n₂ := []) (.cons .none (.cons .none (.cons (.str _ _) .nil))) (fun _ h => nomatch h) ?b1 ?b3 ?_
  case b1 =>
    simp only [List.mem_cons, List.not_mem_nil, or_false, forall_eq_or_imp, forall_eq]
    exact ⟨rfl, rfl, ofw⟩
  case b3 => (first | exact units1 (by assumption) rfl | ktr_units)
  (repeat' (first | (k_unfold; (try dsimp only)) | ((fail_if_success (with_reducible first | show wpAny _ _ (PySem.call (Value.ref _) _) _ _ _ | show wpAny _ _ (pyIter (Value.ref _)) _ _ _ | show wpAny _ _ (exec (Stmt.For _ _ _ _ _) _) _ _ _ | show wpAny _ _ (subscriptTail _ _ _ _) _ _ _ | show DEnd _ _ _ _ _ _ _ _ _ _ _ _ _ _ | show wpAny _ _ (setItem _ _ _) _ _ _ | show wpAny _ _ (getItem _ _) _ _ _ | show LCg.CompSrc _ _ _ _ _ _ _ _ _ _ _ _ _ _ | show LCg.CompEnd _ _ _ _ _ _ _ _ _ _ _ _ _ _ | show wpAny _ _ (eval (Expr.ListComp _ _ _ _) _) _ _ _ | show wpAny _ _ (eval (Expr.DictComp _ _ _ _ _) _) _ _ _ | show wpAny _ _ (exec (Stmt.Assign _ (Expr.ListComp _ _ _ _) _) _) _ _ _ | show wpAny _ _ (exec (Stmt.Assign _ (Expr.DictComp _ _ _ _ _) _) _) _ _ _ | show _ ≤ _)); (first | walk1 | (dsimp only; walk1)) <;> (try dsimp only)) | (leave1; try dsimp only) | fail "no step"))
  refine KXi.item (n := 8) (by rfl) (by (first | lia | omega)) (by (first | lia | omega)) (by decide) ?_
  intro _
  (repeat' (first | (k_unfold; (try dsimp only)) | ((fail_if_success (with_reducible first | show wpAny _ _ (PySem.call (Value.ref _) _) _ _ _ | show wpAny _ _ (pyIter (Value.ref _)) _ _ _ | show wpAny _ _ (exec (Stmt.For _ _ _ _ _) _) _ _ _ | show wpAny _ _ (subscriptTail _ _ _ _) _ _ _ | show DEnd _ _ _ _ _ _ _ _ _ _ _ _ _ _ | show wpAny _ _ (setItem _ _ _) _ _ _ | show wpAny _ _ (getItem _ _) _ _ _ | show LCg.CompSrc _ _ _ _ _ _ _ _ _ _ _ _ _ _ | show LCg.CompEnd _ _ _ _ _ _ _ _ _ _ _ _ _ _ | show wpAny _ _ (eval (Expr.ListComp _ _ _ _) _) _ _ _ | show wpAny _ _ (eval (Expr.DictComp _ _ _ _ _) _) _ _ _ | show wpAny _ _ (exec (Stmt.Assign _ (Expr.ListComp _ _ _ _) _) _) _ _ _ | show wpAny _ _ (exec (Stmt.Assign _ (Expr.DictComp _ _ _ _ _) _) _) _ _ _ | show _ ≤ _)); (first | walk1 | (dsimp only; walk1)) <;> (try dsimp only)) | (leave1; try dsimp only) | fail "no step"))
  (rename Fr _ _ _ _ => lF2); (rename News _ _ _ _ => lN2)
  obtain ⟨T9, e⟩ := nmA0 lN2; subst e
  rename ∀ p ∈ (_, lstO [Value.none, Value.none, Value.str fw tf]) :: _, _ => lT9
  have hke : PySem.Txt.item stepsT (0 + (i : Int)) = key i := by rw [Int.zero_add]; rfl
  rw [hke] at lN2
  obtain ⟨o9, e⟩ := nmO0 lN2
  have hT9 : ∀ q ∈ (D, lstO [.none, .none, .str fw tv]) :: (la, lstC (List.map HE.ref lsL) cL) :: (le, lstC (List.map HE.ref lsE) cE) :: tl, @LT.lt Nat _ q.1 T9 := fun q hq => lT9 q (List.mem_cons_of_mem _ hq)
  have offla : ∀ q ∈ (T9, o9) :: (D, lstO [.none, .none, .str fw tv]) :: (le, lstC (List.map HE.ref lsE) cE) :: tl, @Ne Nat q.1 la := fun q hq => by
    rcases List.mem_cons.mp hq with rfl | hq
    · exact Nat.ne_of_gt (hT9 (la, lstC (List.map HE.ref lsL) cL) (List.mem_cons_of_mem _ (List.mem_cons_self ..)))
    · exact nd.mid (a := [(D, lstO [.none, .none, .str fw tv])]) q hq
  have e9 : ∃ e9 : HE, e9.nm = nm ∧ e9.vl = key i ∧ e9.obj = (T9, o9) ∧ e9.ref = .ref T9 := by rw [e]; exact ⟨⟨T9, nm, t2, key i, _⟩, rfl, rfl, rfl, rfl⟩
  obtain ⟨e9, e9n, e9v, e9o, e9r⟩ := e9
  rw [← e] at lN2
  rw [← e9o] at lN2 offla
  rw [← e9r]
  refine append_K lF2 (cb_drop (news := (la, lstC (List.map HE.ref lsL) cL) :: e9.obj :: (D, lstO [.none, .none, .str fw tv]) :: (le, lstC (List.map HE.ref lsE) cE) :: tl) lN2 ?su) (.head offla) ?_ (by rw [List.size_toArray, List.length_map]; exact Nat.le_trans nL (by decide))
  case su =>
   exact fun q hq => by
    rcases List.mem_cons.mp hq with rfl | hq
    · exact List.mem_cons_of_mem _ (List.mem_cons_of_mem _ (List.mem_cons_of_mem _ (List.mem_cons_self ..)))
    rcases List.mem_cons.mp hq with rfl | hq
    · exact List.mem_cons_self ..
    rcases List.mem_cons.mp hq with rfl | hq
    · exact List.mem_cons_of_mem _ (List.mem_cons_of_mem _ (List.mem_cons_self ..))
    · exact List.mem_cons_of_mem _ (List.mem_cons_of_mem _ (List.mem_cons_of_mem _ (List.mem_cons_of_mem _ hq)))
  clear lF2 lN2
  intro h3 F3 N3
  have eL : W.listOf ((List.map HE.ref lsL).toArray.push e9.ref) (cL + 1) = lstC (List.map HE.ref (lsL ++ [e9])) (cL + 1) := by simp [W.listOf, lstC]
  rw [eL] at N3
  have nd3 : DistL (e9.obj :: (D, lstO [.none, .none, .str fw tv]) :: (la, lstC (List.map HE.ref (lsL ++ [e9])) (cL + 1)) :: (le, lstC (List.map HE.ref lsE) cE) :: tl) := List.nodup_cons.mpr ⟨fun hm => by
    rw [e9o] at hm
    exact Nat.lt_irrefl _ (hlt_of_mem hT9 hm), nd⟩
  (repeat' (first | (k_unfold; (try dsimp only)) | ((fail_if_success (with_reducible first | show wpAny _ _ (PySem.call (Value.ref _) _) _ _ _ | show wpAny _ _ (pyIter (Value.ref _)) _ _ _ | show wpAny _ _ (exec (Stmt.For _ _ _ _ _) _) _ _ _ | show wpAny _ _ (subscriptTail _ _ _ _) _ _ _ | show DEnd _ _ _ _ _ _ _ _ _ _ _ _ _ _ | show wpAny _ _ (setItem _ _ _) _ _ _ | show wpAny _ _ (getItem _ _) _ _ _ | show LCg.CompSrc _ _ _ _ _ _ _ _ _ _ _ _ _ _ | show LCg.CompEnd _ _ _ _ _ _ _ _ _ _ _ _ _ _ | show wpAny _ _ (eval (Expr.ListComp _ _ _ _) _) _ _ _ | show wpAny _ _ (eval (Expr.DictComp _ _ _ _ _) _) _ _ _ | show wpAny _ _ (exec (Stmt.Assign _ (Expr.ListComp _ _ _ _) _) _) _ _ _ | show wpAny _ _ (exec (Stmt.Assign _ (Expr.DictComp _ _ _ _ _) _) _) _ _ _ | show _ ≤ _)); (first | walk1 | (dsimp only; walk1)) <;> (try dsimp only)) | (leave1; try dsimp only) | fail "no step"))
  (rename Fr _ _ _ _ => lF2); (rename News _ _ _ _ => lN2)
  obtain ⟨T10, e⟩ := nmA0 lN2; subst e
  rename ∀ p ∈ (la, lstC (List.map HE.ref (lsL ++ [e9])) (cL + 1)) :: _, _ => lT10
  obtain ⟨o10, e⟩ := nmO0 lN2
  have e10 : ∃ e10 : HE, e10.nm = rd ∧ e10.vl = tw ∧ e10.obj = (T10, o10) ∧ e10.ref = .ref T10 := by rw [e]; exact ⟨⟨T10, rd, t3, tw, t1⟩, rfl, rfl, rfl, rfl⟩
  obtain ⟨e10, e10n, e10v, e10o, e10r⟩ := e10
  rw [← e] at lN2
  rw [← e10o] at lN2
  rw [← e10r]
  have h10 : e10.a = T10 := congrArg (·.1) e10o
  have offle : ∀ q ∈ e10.obj :: (la, lstC (List.map HE.ref (lsL ++ [e9])) (cL + 1)) :: e9.obj :: (D, lstO [.none, .none, .str fw tv]) :: tl, @Ne Nat q.1 le := fun q hq => by
    rcases List.mem_cons.mp hq with rfl | hq
    · rw [e10o]; exact Nat.ne_of_gt (lT10 (le, lstC (List.map HE.ref lsE) cE) (by (with_reducible repeat' first | exact List.mem_cons_self .. | refine List.mem_cons_of_mem _ ?_)))
    · exact nd3.mid (a := [e9.obj, (D, lstO [.none, .none, .str fw tv]), (la, lstC (List.map HE.ref (lsL ++ [e9])) (cL + 1))]) q ((subB [[e9.obj], [(D, lstO [.none, .none, .str fw tv])], [(la, lstC (List.map HE.ref (lsL ++ [e9])) (cL + 1))], tl] 3 [2, 0, 1] 3 [0, 1, 2] rfl : ∀ q ∈ (la, lstC (List.map HE.ref (lsL ++ [e9])) (cL + 1)) :: e9.obj :: (D, lstO [.none, .none, .str fw tv]) :: tl, q ∈ e9.obj :: (D, lstO [.none, .none, .str fw tv]) :: (la, lstC (List.map HE.ref (lsL ++ [e9])) (cL + 1)) :: tl) q hq)
  refine append_K lF2 (cb_drop (news := (le, lstC (List.map HE.ref lsE) cE) :: e10.obj :: (la, lstC (List.map HE.ref (lsL ++ [e9])) (cL + 1)) :: e9.obj :: (D, lstO [.none, .none, .str fw tv]) :: tl) lN2 (subB [[e10.obj], [(la, lstC (List.map HE.ref (lsL ++ [e9])) (cL + 1))], [e9.obj], [(D, lstO [.none, .none, .str fw tv])], [(le, lstC (List.map HE.ref lsE) cE)], tl] 5 [4, 0, 1, 2, 3] 5 [0, 1, 2, 3, 4] rfl : ∀ q ∈ (le, lstC (List.map HE.ref lsE) cE) :: e10.obj :: (la, lstC (List.map HE.ref (lsL ++ [e9])) (cL + 1)) :: e9.obj :: (D, lstO [.none, .none, .str fw tv]) :: tl, q ∈ e10.obj :: (la, lstC (List.map HE.ref (lsL ++ [e9])) (cL + 1)) :: e9.obj :: (D, lstO [.none, .none, .str fw tv]) :: (le, lstC (List.map HE.ref lsE) cE) :: tl)) (.head offle) ?_ (by rw [List.size_toArray, List.length_map]; exact Nat.le_trans nE (by decide))
  clear lF2 lN2
  intro h5 F5 N5
  have eE : W.listOf ((List.map HE.ref lsE).toArray.push e10.ref) (cE + 1) = lstC (List.map HE.ref (lsE ++ [e10])) (cE + 1) := by simp [W.listOf, lstC]
  rw [eE] at N5
  have h9 : e9.a = T9 := congrArg (·.1) e9o
  have nd5 : DistL ([(la, lstC (List.map HE.ref (lsL ++ [e9])) (cL + 1)), (le, lstC (List.map HE.ref lsE) cE)] ++ e9.obj :: tl) := DistL.ins (a := [(la, lstC (List.map HE.ref (lsL ++ [e9])) (cL + 1)), (le, lstC (List.map HE.ref lsE) cE)]) nd.tl (fun q hq => by
    show @LT.lt Nat _ q.1 e9.a
    rw [h9]
    rcases List.mem_cons.mp hq with rfl | hq
    · exact hT9 (la, lstC (List.map HE.ref lsL) cL) (by (with_reducible repeat' first | exact List.mem_cons_self .. | refine List.mem_cons_of_mem _ ?_))
    · exact hT9 q (List.mem_cons_of_mem _ (List.mem_cons_of_mem _ hq)))
  have nd6 := DistL.ins (d := e10.obj) nd5 (fun q hq => by
    show @LT.lt Nat _ q.1 e10.a
    rw [h10]
    exact lT10 q ((subB [[(la, lstC (List.map HE.ref (lsL ++ [e9])) (cL + 1))], [e9.obj], [(D, lstO [.none, .none, .str fw tv])], [(le, lstC (List.map HE.ref lsE) cE)], tl] 4 [0, 3, 1] 4 [0, 1, 2, 3] rfl : ∀ q ∈ (la, lstC (List.map HE.ref (lsL ++ [e9])) (cL + 1)) :: (le, lstC (List.map HE.ref lsE) cE) :: e9.obj :: tl, q ∈ (la, lstC (List.map HE.ref (lsL ++ [e9])) (cL + 1)) :: e9.obj :: (D, lstO [.none, .none, .str fw tv]) :: (le, lstC (List.map HE.ref lsE) cE) :: tl) q hq))
  (repeat' (first | (k_unfold; (try dsimp only)) | ((fail_if_success (with_reducible first | show wpAny _ _ (PySem.call (Value.ref _) _) _ _ _ | show wpAny _ _ (pyIter (Value.ref _)) _ _ _ | show wpAny _ _ (exec (Stmt.For _ _ _ _ _) _) _ _ _ | show wpAny _ _ (subscriptTail _ _ _ _) _ _ _ | show DEnd _ _ _ _ _ _ _ _ _ _ _ _ _ _ | show wpAny _ _ (setItem _ _ _) _ _ _ | show wpAny _ _ (getItem _ _) _ _ _ | show LCg.CompSrc _ _ _ _ _ _ _ _ _ _ _ _ _ _ | show LCg.CompEnd _ _ _ _ _ _ _ _ _ _ _ _ _ _ | show wpAny _ _ (eval (Expr.ListComp _ _ _ _) _) _ _ _ | show wpAny _ _ (eval (Expr.DictComp _ _ _ _ _) _) _ _ _ | show wpAny _ _ (exec (Stmt.Assign _ (Expr.ListComp _ _ _ _) _) _) _ _ _ | show wpAny _ _ (exec (Stmt.Assign _ (Expr.DictComp _ _ _ _ _) _) _) _ _ _ | show _ ≤ _)); (first | walk1 | (dsimp only; walk1)) <;> (try dsimp only)) | (leave1; try dsimp only) | fail "no step"))
  exact ret _ _ e9 e10 F5 (cb_drop (news := (la, lstC (List.map HE.ref (lsL ++ [e9])) (cL + 1)) :: (le, lstC (List.map HE.ref (lsE ++ [e10])) (cE + 1)) :: (e10.obj :: e9.obj :: tl)) N5 (subB [[(le, lstC (List.map HE.ref (lsE ++ [e10])) (cE + 1))], [e10.obj], [(la, lstC (List.map HE.ref (lsL ++ [e9])) (cL + 1))], [e9.obj], [(D, lstO [.none, .none, .str fw tv])], tl] 5 [2, 0, 1, 3] 5 [0, 1, 2, 3, 4] rfl : ∀ q ∈ (la, lstC (List.map HE.ref (lsL ++ [e9])) (cL + 1)) :: (le, lstC (List.map HE.ref (lsE ++ [e10])) (cE + 1)) :: (e10.obj :: e9.obj :: tl), q ∈ (le, lstC (List.map HE.ref (lsE ++ [e10])) (cE + 1)) :: e10.obj :: (la, lstC (List.map HE.ref (lsL ++ [e9])) (cL + 1)) :: e9.obj :: (D, lstO [.none, .none, .str fw tv]) :: tl)) nd6 e9n e9v e10n e10v
end
end
theorem offLT : True := by
  w_top off
  exact True.intro
section
open PySem PySem.W PySem.Spec PySem.Calls PyProof.Rows
section
variable {w : World} {p : Program} {loose : List PySem.Str} {mean : ExcName → Option Value} {mg mb : PySem.Str → Option Value}
noncomputable def txl : List PySem.Str := [⟨#[116, 120]⟩, ⟨#[116, 121]⟩, ⟨#[116, 122]⟩, ⟨#[84, 88]⟩, ⟨#[84, 89]⟩, ⟨#[84, 90]⟩, ⟨#[114, 97]⟩, ⟨#[114, 65]⟩, ⟨#[114, 98]⟩, ⟨#[114, 66]⟩, ⟨#[114, 99]⟩, ⟨#[114, 67]⟩, ⟨#[114, 100]⟩, ⟨#[114, 68]⟩, ⟨#[120, 120]⟩, ⟨#[120, 121]⟩, ⟨#[120, 122]⟩, ⟨#[121, 120]⟩, ⟨#[121, 121]⟩, ⟨#[121, 122]⟩, ⟨#[122, 120]⟩, ⟨#[122, 121]⟩, ⟨#[122, 122]⟩, ⟨#[97]⟩, ⟨#[65]⟩, ⟨#[98]⟩, ⟨#[66]⟩, ⟨#[99]⟩, ⟨#[67]⟩, ⟨#[100]⟩, ⟨#[68]⟩]
theorem txl_clean : ∀ x ∈ txl, Clean x := by
  have c : ∀ {x : PySem.Str}, Clean x → Clean x := fun h => h
  unfold txl
  repeat' (first | exact List.forall_mem_nil _ | refine List.forall_mem_cons.mpr ⟨?_, ?_⟩ | exact fun w p t => ⟨by kernel_rfl, by kernel_rfl⟩)
noncomputable def fwN (n f : Nat) : PySem.Str := PySem.Txt.item xyzT (n : Int) ++ PySem.Txt.item xyzT (f : Int)
noncomputable def ttT (k : Nat) : PySem.Str := PySem.Str.ofString "t" ++ PySem.Txt.item xyzT (k : Int)
noncomputable def okT (i n f : Nat) : Bool := txl.elem (namT i (fwN n f)) && txl.elem (twnT i (fwN n f)) && txl.elem (roaT i) && txl.elem (PySem.Txt.lower (roaT i)) && txl.elem (key i) && Nat.beq (fwN n f).length 2 && Nat.beq (PySem.Txt.sliceBy (fwN n f) none none (-1, 0)).length 2 && PyData.strOk (fwN n f) &&
  Nat.ble (namT i (fwN n f)).length 8 && Nat.ble (twnT i (fwN n f)).length 8 && Nat.ble (roaT i).length 8 && Nat.ble (key i).length 8 && (PySem.Txt.lower (namT i (fwN n f)) == ttT (if i % 2 = 0 then n else f)) && PyData.strOk (namT i (fwN n f)) && PyData.strOk (twnT i (fwN n f)) && PyData.strOk (roaT i) && PyData.strOk (key i)
theorem okT_all : (List.range 8).all (fun i => (List.range 3).all fun n => (List.range 3).all fun f => okT i n f) = true := by decide +kernel
noncomputable def fwT (l : List (Int × Int)) (i : Nat) : PySem.Str := PySem.Txt.item xyzT (l.getD (i / 2) (0, 0)).1 ++ PySem.Txt.item xyzT (l.getD (i / 2) (0, 0)).2
structure TxOk (l : List (Int × Int)) (i : Nat) : Prop where
  cn : Clean (namT i (fwT l i))
  ct : Clean (twnT i (fwT l i))
  cr : Clean (roaT i)
  cl : Clean (PySem.Txt.lower (roaT i))
  ck : Clean (key i)
  l1 : (fwT l i).length = 2
  l2 : (PySem.Txt.sliceBy (fwT l i) none none (-1, 0)).length = 2
  of : PyData.strOk (fwT l i) = true
  ln : (namT i (fwT l i)).length ≤ 8
  lt : (twnT i (fwT l i)).length ≤ 8
  lr : (roaT i).length ≤ 8
  lk : (key i).length ≤ 8
  lo : PySem.Txt.lower (namT i (fwT l i)) = ttT (town l i)
  on : PyData.strOk (namT i (fwT l i)) = true
  ot : PyData.strOk (twnT i (fwT l i)) = true
  or : PyData.strOk (roaT i) = true
  ok : PyData.strOk (key i) = true
theorem all_at {n : Nat} {P : Nat → Bool} (h : (List.range n).all P = true) {i : Nat} (hi : i < n) : P i = true := List.all_eq_true.mp h i (List.mem_range.mpr hi)
theorem in3_at {l : List (Int × Int)} (h : In3 l) (k : Nat) : 0 ≤ (l.getD k (0, 0)).1 ∧ (l.getD k (0, 0)).1 < 3 ∧ 0 ≤ (l.getD k (0, 0)).2 ∧ (l.getD k (0, 0)).2 < 3 := by
  rcases Nat.lt_or_ge k l.length with hk | hk
  · rw [List.getD_eq_getElem?_getD, List.getElem?_eq_getElem hk]; exact h _ (List.getElem_mem hk)
  · rw [List.getD_eq_getElem?_getD, List.getElem?_eq_none hk]; decide
theorem fwT_eq {l : List (Int × Int)} (h : In3 l) (i : Nat) : fwT l i = fwN (l.getD (i / 2) (0, 0)).1.toNat (l.getD (i / 2) (0, 0)).2.toNat := by
  obtain ⟨a, _, b, _⟩ := in3_at h (i / 2)
  unfold fwT fwN
  rw [Int.toNat_of_nonneg a, Int.toNat_of_nonneg b]
theorem elem_clean {x : PySem.Str} (h : txl.elem x = true) : Clean x := txl_clean x (List.elem_iff.mp h)
theorem txOk {l : List (Int × Int)} (h : In3 l) {i : Nat} (hi : i < 8) : TxOk l i := by
  obtain ⟨a, a', b, b'⟩ := in3_at h (i / 2)
  have q := all_at (all_at (all_at okT_all hi) (show (l.getD (i / 2) (0, 0)).1.toNat < 3 by (first | lia | omega))) (show (l.getD (i / 2) (0, 0)).2.toNat < 3 by (first | lia | omega))
  have e := fwT_eq h i
  unfold okT at q
  simp only [Bool.and_eq_true, ← e] at q
  obtain ⟨⟨⟨⟨⟨⟨⟨⟨⟨⟨⟨⟨⟨⟨⟨⟨q1, q2⟩, q3⟩, q4⟩, q5⟩, q6⟩, q7⟩, q8⟩, q9⟩, q10⟩, q11⟩, q12⟩, q13⟩, q14⟩, q15⟩, q16⟩, q17⟩ := q
  exact ⟨elem_clean q1, elem_clean q2, elem_clean q3, elem_clean q4, elem_clean q5, Nat.eq_of_beq_eq_true q6, Nat.eq_of_beq_eq_true q7, q8, Nat.le_of_ble_eq_true q9, Nat.le_of_ble_eq_true q10, Nat.le_of_ble_eq_true q11, Nat.le_of_ble_eq_true q12, eq_of_beq q13, q14, q15, q16, q17⟩
noncomputable def nmL (l : List (Int × Int)) (n : Nat) : List (PySem.Str × PySem.Str) := (List.range n).map fun j => (namT j (fwT l j), key j)
noncomputable def rdL (l : List (Int × Int)) (n : Nat) : List (PySem.Str × PySem.Str) := (List.range n).map fun j => (roaT j, twnT j (fwT l j))
theorem nmL_succ (l : List (Int × Int)) (n : Nat) : nmL l (n + 1) = nmL l n ++ [(namT n (fwT l n), key n)] := by unfold nmL; rw [List.range_succ, List.map_append]; rfl
theorem rdL_succ (l : List (Int × Int)) (n : Nat) : rdL l (n + 1) = rdL l n ++ [(roaT n, twnT n (fwT l n))] := by unfold rdL; rw [List.range_succ, List.map_append]; rfl
noncomputable abbrev HE.tx (e : HE) : PySem.Str × PySem.Str := (e.nm, e.vl)
theorem getOf_tx {k v : PySem.Str} : ∀ {es : List HE}, ((es.map HE.tx).find? fun p => decide (PySem.Txt.lower p.1 = k)).map (·.2) = some v → ∃ tv, getOf k es = .str v tv
  | [], h => by simp at h
  | e :: r, h => by
    unfold getOf
    by_cases hk : PySem.Txt.lower e.nm = k
    · rw [if_pos hk]
      rw [List.map_cons, List.find?_cons_of_pos (by simpa using hk)] at h
      have h2 : e.vl = v := Option.some.inj h
      exact ⟨e.tv, by rw [h2]⟩
    · rw [if_neg hk]
      rw [List.map_cons, List.find?_cons_of_neg (by simpa using hk)] at h
      exact getOf_tx h
theorem roa_find : (List.range 9).all (fun n => (List.range n).all fun i => decide ((List.range n).find? (fun j => decide (PySem.Txt.lower (roaT j) = PySem.Txt.lower (roaT i))) = some (2 * (i / 2)))) = true := by decide +kernel
theorem rd_get {l : List (Int × Int)} {n i : Nat} (hn : n < 9) (hi : i < n) {es : List HE} (he : es.map HE.tx = rdL l n) : ∃ tv, getOf (PySem.Txt.lower (roaT i)) es = .str (fwT l i) tv := by
  refine getOf_tx ?_
  rw [he]
  unfold rdL
  rw [List.find?_map, Option.map_map]
  have h := of_decide_eq_true (all_at (all_at roa_find hn) hi)
  have e : ((fun p : PySem.Str × PySem.Str => decide (PySem.Txt.lower p.1 = PySem.Txt.lower (roaT i))) ∘ fun j => (roaT j, twnT j (fwT l j))) = fun j => decide (PySem.Txt.lower (roaT j) = PySem.Txt.lower (roaT i)) := rfl
  rw [e, h]
  show some (twnT (2 * (i / 2)) (fwT l (2 * (i / 2)))) = _
  unfold twnT
  rw [if_pos (by (first | lia | omega))]
  unfold fwT
  rw [show 2 * (i / 2) / 2 = i / 2 by (first | lia | omega)]
noncomputable def okU (i n f : Nat) : Bool := ((PySem.Str.ofString "t" ++ PySem.Txt.item (fwN n f) ((1 - i % 2 : Nat) : Int)) == ttT (if par i % 2 = 0 then n else f)) && (PySem.Txt.lower (ttT n) == ttT n) && (PySem.Txt.lower (PySem.Txt.upper (ttT n)) == ttT n) && txl.elem (ttT n) && Nat.ble (ttT n).length 8 && Nat.ble (PySem.Txt.upper (ttT n)).length 8 && ((ttT n == ttT f) == Nat.beq n f)
theorem okU_all : (List.range 8).all (fun i => (List.range 3).all fun n => (List.range 3).all fun f => okU i n f) = true := by decide +kernel
theorem xor_all : (List.range 8).all (fun i => decide (Builtin.bitXor (((0 : Int) + (i : Int)).fmod 2) 1 = ((1 - i % 2 : Nat) : Int)) && decide (Builtin.bitXor ((0 : Int) + (i : Int)) 1 = ((par i : Nat) : Int))) = true := by decide +kernel
theorem tt_to {l : List (Int × Int)} (h : In3 l) {i : Nat} (hi : i < 8) : PySem.Str.ofString "t" ++ PySem.Txt.item (fwT l i) ((1 - i % 2 : Nat) : Int) = ttT (town l (par i)) := by
  obtain ⟨a, a', b, b'⟩ := in3_at h (i / 2)
  have q := all_at (all_at (all_at okU_all hi) (show (l.getD (i / 2) (0, 0)).1.toNat < 3 by (first | lia | omega))) (show (l.getD (i / 2) (0, 0)).2.toNat < 3 by (first | lia | omega))
  unfold okU at q
  simp only [Bool.and_eq_true] at q
  rw [fwT_eq h, eq_of_beq q.1.1.1.1.1.1]
  have hp : par i / 2 = i / 2 := by
    unfold par; split <;> (first | lia | omega)
  unfold town
  rw [hp]
structure TtOk (k : Nat) : Prop where
  lo : PySem.Txt.lower (ttT k) = ttT k
  lu : PySem.Txt.lower (PySem.Txt.upper (ttT k)) = ttT k
  cl : Clean (ttT k)
  ln : (ttT k).length ≤ 8
  lp : (PySem.Txt.upper (ttT k)).length ≤ 8
theorem ttOk {k : Nat} (hk : k < 3) : TtOk k := by
  have q := all_at (all_at (all_at okU_all (show 0 < 8 by decide)) hk) hk
  unfold okU at q
  simp only [Bool.and_eq_true] at q
  exact ⟨eq_of_beq q.1.1.1.1.1.2, eq_of_beq q.1.1.1.1.2, elem_clean q.1.1.1.2, Nat.le_of_ble_eq_true q.1.1.2, Nat.le_of_ble_eq_true q.1.2⟩
theorem tt_inj {a b : Nat} (ha : a < 3) (hb : b < 3) : ttT a = ttT b ↔ a = b := by
  have q := all_at (all_at (all_at okU_all (show 0 < 8 by decide)) ha) hb
  unfold okU at q
  simp only [Bool.and_eq_true] at q
  have e := eq_of_beq q.2
  constructor
  · intro h
    rw [beq_iff_eq.mpr h] at e
    exact Nat.eq_of_beq_eq_true e.symm
  · rintro rfl; rfl
theorem xor_at {i : Nat} (hi : i < 8) : Builtin.bitXor (((0 : Int) + (i : Int)).fmod 2) 1 = ((1 - i % 2 : Nat) : Int) ∧ Builtin.bitXor ((0 : Int) + (i : Int)) 1 = ((par i : Nat) : Int) := by
  have q := all_at xor_all hi
  rw [Bool.and_eq_true, decide_eq_true_iff, decide_eq_true_iff] at q
  exact q
end
end
theorem offLA4 : True := by
  w_top off
  exact True.intro
section
open PySem PySem.W PySem.Spec PySem.Calls PyProof.Rows
section
variable {w : World} {p : Program} {loose : List PySem.Str} {mean : ExcName → Option Value} {mg mb : PySem.Str → Option Value}
set_option maxHeartbeats 4000000 in
theorem laTurn {stm : List Stmt} {scope : Scope} (hb : (stm, scope) = (forBody 5 (topFn 24).1, (topFn 24).2)) {i : Nat} (hi : i < 8)
    {dp un : Nat} {gd : Option (List Code)} {cn : PySem.Str} {cs : Scope} {L fa LL : Addr} {ccd : Value} {cl : List (PySem.Str × Addr)} {outer : List Env} {base gg : Heap} {m : PySem.Str → Option Value} {s : Shared} {E : Value → Shared → Prop} {Q : Flow → Shared → Prop}
    {ps : List PE} {P xd dd ld xr dr lr la le : Addr} {td tr : Tok} {esD esR lsL lsE : List HE} {cD cR cL cE k0 : Nat} {tl : Led} {ti tS : Tok}
    (BB : Below (ktrTop dp un gd cn cs L fa ccd cl outer) base (envX cn cs L fa ccd cl :: outer) gg) (XX : (Mine.hd.heap_1 w.params).In gg) (TT : Top p loose mean mg mb gg) (hC : Codes base) (hd : dp + 150 < recursionLimit) (hu : un + 8 * 150 < cLine)
    (hp4 : ps.length = 4) (hpr : In3 (ps.map PE.nf)) (hRs : Rests gg (ps.map PE.obj)) (hP : (P, lstC (ps.map PE.ref) k0) ∈ tl)
    (F : Fr gg LL s.heap fun y => if y = "i" then some (.int (0 + (i : Int)) ti) else if y = "steps" then some (.str stepsT tS) else if y = "pairs" then some (.ref P) else if y = "doors" then some (.ref xd) else if y = "roads" then some (.ref xr) else if y = "laid" then some (.ref la) else if y = "ends" then some (.ref le) else m y)
    (N : News gg LL s.heap ((ld, lstC (List.map HE.ref esD) cD) :: (xd, instObj 252 dd) :: (dd, hDict w ld td) :: (lr, lstC (List.map HE.ref esR) cR) :: (xr, instObj 252 dr) :: (dr, hDict w lr tr) :: (la, lstC (List.map HE.ref lsL) cL) :: (le, lstC (List.map HE.ref lsE) cE) :: tl))
    (nd : DistL ((ld, lstC (List.map HE.ref esD) cD) :: (xd, instObj 252 dd) :: (dd, hDict w ld td) :: (lr, lstC (List.map HE.ref esR) cR) :: (xr, instObj 252 dr) :: (dr, hDict w lr tr) :: (la, lstC (List.map HE.ref lsL) cL) :: (le, lstC (List.map HE.ref lsE) cE) :: tl))
    (hD : ∀ e ∈ esD, e.obj ∈ tl) (hR : ∀ e ∈ esR, e.obj ∈ tl) (hL : ∀ e ∈ lsL, e.obj ∈ tl) (hE : ∀ e ∈ lsE, e.obj ∈ tl)
    (tD : esD.map HE.tx = nmL (ps.map PE.nf) i) (tR : esR.map HE.tx = rdL (ps.map PE.nf) i) (tL : lsL.map HE.tx = nmL (ps.map PE.nf) i) (tE : lsE.map HE.tx = rdL (ps.map PE.nf) i)
    (ret : ∀ h' tk m' e7 e8 e9 e10, m' "steps" = some (.str stepsT tS) → m' "pairs" = some (.ref P) → m' "doors" = some (.ref xd) → m' "roads" = some (.ref xr) → m' "laid" = some (.ref la) → m' "ends" = some (.ref le) → Fr gg LL h' m' →
      News gg LL h' ((ld, lstC (List.map HE.ref (esD ++ [e7])) (cD + 1)) :: (xd, instObj 252 dd) :: (dd, hDict w ld td) :: (lr, lstC (List.map HE.ref (esR ++ [e8])) (cR + 1)) :: (xr, instObj 252 dr) :: (dr, hDict w lr tr) :: (la, lstC (List.map HE.ref (lsL ++ [e9])) (cL + 1)) :: (le, lstC (List.map HE.ref (lsE ++ [e10])) (cE + 1)) :: (e10.obj :: e9.obj :: e8.obj :: e7.obj :: tl)) → DistL ((ld, lstC (List.map HE.ref (esD ++ [e7])) (cD + 1)) :: (xd, instObj 252 dd) :: (dd, hDict w ld td) :: (lr, lstC (List.map HE.ref (esR ++ [e8])) (cR + 1)) :: (xr, instObj 252 dr) :: (dr, hDict w lr tr) :: (la, lstC (List.map HE.ref (lsL ++ [e9])) (cL + 1)) :: (le, lstC (List.map HE.ref (lsE ++ [e10])) (cE + 1)) :: (e10.obj :: e9.obj :: e8.obj :: e7.obj :: tl)) →
      e7.tx = (namT i (fwT (ps.map PE.nf) i), key i) → e8.tx = (roaT i, twnT i (fwT (ps.map PE.nf) i)) → e9.tx = (namT i (fwT (ps.map PE.nf) i), key i) → e10.tx = (roaT i, twnT i (fwT (ps.map PE.nf) i)) → Q .next { s with heap := h', toks := tk }) :
    wpAny (model PySem.Challenge.rw_wy0040_01.row.toRowW.prog w) ((ktrTop dp un gd cn cs L fa ccd cl outer).deeper (envOfC "_law_after" scope LL 266 (.ref 265))) (execs stm (envOfC "_law_after" scope LL 266 (.ref 265))) Q E s := by
  obtain ⟨rfl, rfl⟩ := Prod.mk.inj hb
  have ht := txOk hpr hi
  obtain ⟨pe, hpe⟩ : ∃ pe, ps[i / 2]? = some pe := ⟨_, List.getElem?_eq_getElem (show i / 2 < ps.length by (first | lia | omega))⟩
  have hfe : PySem.Txt.item xyzT pe.n ++ PySem.Txt.item xyzT pe.f = fwT (ps.map PE.nf) i := by
    unfold fwT
    rw [List.getD_eq_getElem?_getD, List.getElem?_map, hpe]; rfl
  have len : ∀ {es : List HE} {t : List (PySem.Str × PySem.Str)}, es.map HE.tx = t → t.length = i → es.length ≤ 8 := fun h1 h2 => by
    have := congrArg List.length h1
    rw [List.length_map] at this
    (first | lia | omega)
  have ln : (nmL (ps.map PE.nf) i).length = i := by simp [nmL]
  have lr' : (rdL (ps.map PE.nf) i).length = i := by simp [rdL]
  refine laHead (stm := (forBody 5 (topFn 24).1).take 1) (rest := (forBody 5 (topFn 24).1).drop 1) rfl hi BB XX TT hC hd hu hp4 (fun e he => hpr _ (List.mem_map_of_mem he)) hRs F N (List.mem_append_right [(ld, lstC (List.map HE.ref esD) cD), (xd, instObj 252 dd), (dd, hDict w ld td), (lr, lstC (List.map HE.ref esR) cR), (xr, instObj 252 dr), (dr, hDict w lr tr), (la, lstC (List.map HE.ref lsL) cL), (le, lstC (List.map HE.ref lsE) cE)] hP) hpe ?_
  intro h1 tk1 t1 F1 N1
  rw [hfe] at F1
  refine laHead2 (stm := ((forBody 5 (topFn 24).1).drop 1).take 3) (rest := (forBody 5 (topFn 24).1).drop 4) rfl hi BB XX TT hC hd hu ht.l1 ht.l2 F1 N1 ?_
  intro h2 tk2 t2 t3 t4 F2 N2
  refine laTail (stm := ((forBody 5 (topFn 24).1).drop 4).take 1) (rest := (forBody 5 (topFn 24).1).drop 5) rfl hi BB XX TT hC hd hu ht.cn ht.ct ht.cr ht.cl ht.ck ht.ln ht.lt ht.lr ht.lk F2 N2 nd hD hR hL hE (len tD ln) (len tR lr') (len tL ln) (len tE lr') ?_ ?_ ?_
  case refine_1 =>
    intro e he
    have hm : e.tx ∈ rdL (ps.map PE.nf) i := tR ▸ List.mem_map_of_mem he
    obtain ⟨j, hj, e1⟩ := List.mem_map.mp hm
    rw [show e.nm = roaT j from (congrArg (·.1) e1).symm]
    exact (txOk hpr (Nat.lt_trans (List.mem_range.mp hj) hi)).lr
  case refine_2 =>
    intro e h1 h2
    exact rd_get (n := i + 1) (by (first | lia | omega)) (Nat.lt_succ_self i) (by rw [List.map_append, tR, rdL_succ, List.map_cons, List.map_nil, HE.tx, h1, h2])
  intro h3 tk3 D e7 e8 tv F3 N3 nd3 e7n e7v e8n e8v
  refine laEnd (tl := (ld, lstC (List.map HE.ref (esD ++ [e7])) (cD + 1)) :: (xd, instObj 252 dd) :: (dd, hDict w ld td) :: (lr, lstC (List.map HE.ref (esR ++ [e8])) (cR + 1)) :: (xr, instObj 252 dr) :: (dr, hDict w lr tr) :: e8.obj :: e7.obj :: tl) rfl hi BB XX TT hC hd hu ht.of F3 (cb_drop (news := (D, lstO [.none, .none, .str (fwT (ps.map PE.nf) i) tv]) :: (la, lstC (List.map HE.ref lsL) cL) :: (le, lstC (List.map HE.ref lsE) cE) :: (ld, lstC (List.map HE.ref (esD ++ [e7])) (cD + 1)) :: (xd, instObj 252 dd) :: (dd, hDict w ld td) :: (lr, lstC (List.map HE.ref (esR ++ [e8])) (cR + 1)) :: (xr, instObj 252 dr) :: (dr, hDict w lr tr) :: e8.obj :: e7.obj :: tl) N3 ?_) ?_ (len tL ln) (len tE lr') ?_
  case refine_1 => exact (subB [[(D, lstO [.none, .none, .str (fwT (ps.map PE.nf) i) tv])], [(ld, lstC (List.map HE.ref (esD ++ [e7])) (cD + 1))], [(xd, instObj 252 dd)], [(dd, hDict w ld td)], [(lr, lstC (List.map HE.ref (esR ++ [e8])) (cR + 1))], [(xr, instObj 252 dr)], [(dr, hDict w lr tr)], [(la, lstC (List.map HE.ref lsL) cL)], [(le, lstC (List.map HE.ref lsE) cE)], [e8.obj], [e7.obj], tl] 11 [0, 7, 8, 1, 2, 3, 4, 5, 6, 9, 10] 11 [0, 1, 2, 3, 4, 5, 6, 7, 8, 9, 10] rfl : ∀ q ∈ (D, lstO [.none, .none, .str (fwT (ps.map PE.nf) i) tv]) :: (la, lstC (List.map HE.ref lsL) cL) :: (le, lstC (List.map HE.ref lsE) cE) :: (ld, lstC (List.map HE.ref (esD ++ [e7])) (cD + 1)) :: (xd, instObj 252 dd) :: (dd, hDict w ld td) :: (lr, lstC (List.map HE.ref (esR ++ [e8])) (cR + 1)) :: (xr, instObj 252 dr) :: (dr, hDict w lr tr) :: e8.obj :: e7.obj :: tl, q ∈ (D, lstO [.none, .none, .str (fwT (ps.map PE.nf) i) tv]) :: (ld, lstC (List.map HE.ref (esD ++ [e7])) (cD + 1)) :: (xd, instObj 252 dd) :: (dd, hDict w ld td) :: (lr, lstC (List.map HE.ref (esR ++ [e8])) (cR + 1)) :: (xr, instObj 252 dr) :: (dr, hDict w lr tr) :: (la, lstC (List.map HE.ref lsL) cL) :: (le, lstC (List.map HE.ref lsE) cE) :: e8.obj :: e7.obj :: tl)
  case refine_2 => exact nd3.perm (List.Perm.cons _ (List.perm_append_comm_assoc [(ld, lstC (List.map HE.ref (esD ++ [e7])) (cD + 1)), (xd, instObj 252 dd), (dd, hDict w ld td), (lr, lstC (List.map HE.ref (esR ++ [e8])) (cR + 1)), (xr, instObj 252 dr), (dr, hDict w lr tr)] [(la, lstC (List.map HE.ref lsL) cL), (le, lstC (List.map HE.ref lsE) cE)] (e8.obj :: e7.obj :: tl)))
  intro h4 tk4 e9 e10 F4 N4 nd4 e9n e9v e10n e10v
  refine ret _ _ _ e7 e8 e9 e10 rfl rfl rfl rfl rfl rfl F4 (cb_drop (news := (ld, lstC (List.map HE.ref (esD ++ [e7])) (cD + 1)) :: (xd, instObj 252 dd) :: (dd, hDict w ld td) :: (lr, lstC (List.map HE.ref (esR ++ [e8])) (cR + 1)) :: (xr, instObj 252 dr) :: (dr, hDict w lr tr) :: (la, lstC (List.map HE.ref (lsL ++ [e9])) (cL + 1)) :: (le, lstC (List.map HE.ref (lsE ++ [e10])) (cE + 1)) :: e10.obj :: e9.obj :: e8.obj :: e7.obj :: tl) N4 (subB [[(la, lstC (List.map HE.ref (lsL ++ [e9])) (cL + 1))], [(le, lstC (List.map HE.ref (lsE ++ [e10])) (cE + 1))], [e10.obj], [e9.obj], [(ld, lstC (List.map HE.ref (esD ++ [e7])) (cD + 1))], [(xd, instObj 252 dd)], [(dd, hDict w ld td)], [(lr, lstC (List.map HE.ref (esR ++ [e8])) (cR + 1))], [(xr, instObj 252 dr)], [(dr, hDict w lr tr)], [e8.obj], [e7.obj], tl] 12 [4, 5, 6, 7, 8, 9, 0, 1, 2, 3, 10, 11] 12 [0, 1, 2, 3, 4, 5, 6, 7, 8, 9, 10, 11] rfl : ∀ q ∈ (ld, lstC (List.map HE.ref (esD ++ [e7])) (cD + 1)) :: (xd, instObj 252 dd) :: (dd, hDict w ld td) :: (lr, lstC (List.map HE.ref (esR ++ [e8])) (cR + 1)) :: (xr, instObj 252 dr) :: (dr, hDict w lr tr) :: (la, lstC (List.map HE.ref (lsL ++ [e9])) (cL + 1)) :: (le, lstC (List.map HE.ref (lsE ++ [e10])) (cE + 1)) :: e10.obj :: e9.obj :: e8.obj :: e7.obj :: tl, q ∈ (la, lstC (List.map HE.ref (lsL ++ [e9])) (cL + 1)) :: (le, lstC (List.map HE.ref (lsE ++ [e10])) (cE + 1)) :: e10.obj :: e9.obj :: (ld, lstC (List.map HE.ref (esD ++ [e7])) (cD + 1)) :: (xd, instObj 252 dd) :: (dd, hDict w ld td) :: (lr, lstC (List.map HE.ref (esR ++ [e8])) (cR + 1)) :: (xr, instObj 252 dr) :: (dr, hDict w lr tr) :: e8.obj :: e7.obj :: tl)) ?_ (Prod.ext e7n e7v) (Prod.ext e8n e8v) (Prod.ext e9n e9v) (Prod.ext e10n e10v)
  exact nd4.perm ((List.Perm.append_left [(la, lstC (List.map HE.ref (lsL ++ [e9])) (cL + 1)), (le, lstC (List.map HE.ref (lsE ++ [e10])) (cE + 1))] (List.perm_append_comm_assoc [e10.obj, e9.obj] [(ld, lstC (List.map HE.ref (esD ++ [e7])) (cD + 1)), (xd, instObj 252 dd), (dd, hDict w ld td), (lr, lstC (List.map HE.ref (esR ++ [e8])) (cR + 1)), (xr, instObj 252 dr), (dr, hDict w lr tr)] (e8.obj :: e7.obj :: tl))).trans (List.perm_append_comm_assoc [(la, lstC (List.map HE.ref (lsL ++ [e9])) (cL + 1)), (le, lstC (List.map HE.ref (lsE ++ [e10])) (cE + 1))] [(ld, lstC (List.map HE.ref (esD ++ [e7])) (cD + 1)), (xd, instObj 252 dd), (dd, hDict w ld td), (lr, lstC (List.map HE.ref (esR ++ [e8])) (cR + 1)), (xr, instObj 252 dr), (dr, hDict w lr tr)] (e10.obj :: e9.obj :: e8.obj :: e7.obj :: tl)))
end
end
theorem offLP : True := by
  w_top off
  exact True.intro
section
open PySem PySem.W PySem.Spec PySem.Calls PyProof.Rows
section
variable {w : World} {p : Program} {loose : List PySem.Str} {mean : ExcName → Option Value} {mg mb : PySem.Str → Option Value}
section
open PyProof.Rows.LCg
variable {prog : Program} {A : Around} {E : Value → Shared → Prop} {s : Shared} {h₀ : Heap} {L : Addr} {m : PySem.Str → Option Value} {env : Env}
noncomputable def PTurn (prog : Program) (w : World) (A : Around) (h₀ : Heap) (L : Addr) (m : PySem.Str → Option Value) (env : Env) (c elt : PySem.Expr) (a b : PySem.Str) (scope : Scope) (cl : List (PySem.Str × Addr)) (s : Shared) (news : Led) (tst : HE → Bool) (val : HE → Value) (e : HE) : Prop :=
  ∀ (I : Addr) (oI : Obj) (C : Addr) (oC : Obj) (D : Addr) (ys : List Value) (m₂ : PySem.Str → Option Value) (h : Heap) (tk : Nat) (E' : Value → Shared → Prop), NsObj oC m₂ → m₂ a = some (.str e.nm e.tn) → m₂ b = some (.str e.vl e.tv) → Fr h₀ L h m → News h₀ L h ((I, oI) :: (C, oC) :: (D, lst ys) :: news) →
    wpAny (model prog w) A (isTrue c (compEnvC scope cl C env) (eval c (compEnvC scope cl C env))) (fun ok s₃ => ok = tst e ∧ ((ok = true → wpAny (model prog w) A (eval elt (compEnvC scope cl C env)) (fun y s₄ => y = val e ∧ ∃ h' tk', s₄ = { s with heap := h', toks := tk' } ∧ Fr h₀ L h' m ∧ News h₀ L h' ((I, oI) :: (C, oC) :: (D, lst ys) :: news)) E' s₃) ∧
      (ok = false → ∃ h' tk', s₃ = { s with heap := h', toks := tk' } ∧ Fr h₀ L h' m ∧ News h₀ L h' ((I, oI) :: (C, oC) :: (D, lst ys) :: news)))) E' { s with heap := h, toks := tk }
noncomputable def outP (tst : HE → Bool) (val : HE → Value) (es : List HE) : List Value := (es.filter tst).map val
theorem outP_succ {tst : HE → Bool} {val : HE → Value} {es : List HE} {i : Nat} {e : HE} (h : es[i]? = some e) : outP tst val (es.take (i + 1)) = if tst e = true then outP tst val (es.take i) ++ [val e] else outP tst val (es.take i) := by
  unfold outP
  rw [List.take_add_one, h]
  split
  · rename_i q; simp [q, List.filter_cons]
  · rename_i q; simp [q, List.filter_cons]
inductive PcJ (h₀ : Heap) (L : Addr) (m : PySem.Str → Option Value) (s : Shared) (I C D ax : Addr) (es : List HE) (news : Led) (tst : HE → Bool) (val : HE → Value) (k : Nat) (s' : Shared) : Prop
  | mk (h' : Heap) (tk i : Nat) (m' : PySem.Str → Option Value) (e : s' = { s with heap := h', toks := tk }) (hi : i ≤ es.length) (hk : k = es.length + 1 - i) (hl : h'.IsListIter I ax i ∧ h'.IsList ax (es.map HE.ref).toArray) (F : Fr h₀ L h' m) (hn : h'.Ns C m') (N : News h₀ L h' ((D, lst (outP tst val (es.take i))) :: news))
theorem pcomp {c elt iter : PySem.Expr} {a b : PySem.Str} {pa pb tp : Pos} {kk : Nat} {scope : Scope} {cl : List (PySem.Str × Addr)} {pos : Pos} {Q : Value → Shared → Prop} {ax : Addr} {es : List HE} {k : Nat} {news : Led} {tst : HE → Bool} {val : HE → Value}
    (hh : A.handled = none) (hclos : closureFor scope env = pure cl) (hcell : ∀ y ∈ scope.names, y.2 ≠ .cell) (hkind : scope.kind = .function)
    (hnames : ∀ y ∈ scope.names, y.2 = .local → scope.names.lookup y.1 = some .local) (hxa : scope.names.lookup a = some .local) (hxb : scope.names.lookup b = some .local) (hab : ¬ a = b)
    (hm : (ax, lstC (es.map HE.ref) k) ∈ news) (hes : ∀ e ∈ es, e.obj ∈ news) (hsz : es.length ≤ sizeLine)
    (h : wpAny (model prog w) A (eval iter env) (fun xv s₁ => xv = .ref ax ∧ ∃ h tk, s₁ = { s with heap := h, toks := tk } ∧ Fr h₀ L h m ∧ News h₀ L h news) E s)
    (turn : ∀ e ∈ es, PTurn prog w A h₀ L m env c elt a b scope cl s news tst val e)
    (fin : ∀ D h tk, Fr h₀ L h m → News h₀ L h ((D, lst (outP tst val es)) :: news) → (∀ p ∈ news, @LT.lt Nat _ p.1 D) → Q (.ref D) { s with heap := h, toks := tk })
    (hs : ∀ x, foldedSetIterable iter env x = pure x) :
    wpAny (model prog w) A (eval (.ListComp elt [⟨.Tuple [.Name a pa, .Name b pb] kk tp, iter, [c], 0⟩] scope pos) env) Q E s := by
  rw [eval_ListComp]
  refine wpAny_comprehension_free (use := none) rfl hs hclos hkind hnames (wpAny_mono h (fun xv s₁ h₁ => ?_) fun _ _ e => e)
  obtain ⟨rfl, g, tk0, rfl, F, N⟩ := h₁
  have hl : g.IsList ax (es.map HE.ref).toArray := isL N hm
  have hlt : ax < g.objs.size := Heap.lt_size (N _ hm).1
  refine wpAny_pyIter_list hl ?_
  generalize hHI : g.push { cls := .type "list_iterator", data := .fields #[.ref ax, .int 0 0] } = HI
  have oldI : ∀ b o, g.get? b = some o → HI.get? b = some o := fun b o e => hHI ▸ Heap.get?_push_of_some _ e
  have hI : HI.get? g.objs.size = some { cls := .type "list_iterator", data := .fields #[.ref ax, .int 0 0] } := hHI ▸ Heap.get?_push_size _ rfl
  have hIs : HI.objs.size = g.objs.size + 1 := by rw [← hHI, Heap.size_push]
  refine wpAny_newObj_type (wpAny_newFunctionEnv hcell (by intro y hy; simp at hy) (fun h1 hns1 hsb1 => ?_) hkind)
  dsimp only at hns1 hsb1 ⊢
  generalize hH2 : HI.push { cls := .type "list", dict := none, data := .seq ([] : List Value).toArray } = H2 at hns1 hsb1 ⊢
  have hC : H2.objs.size = HI.objs.size + 1 := by rw [← hH2, Heap.size_push]
  have hD : H2.get? HI.objs.size = some (lst []) := hH2 ▸ Heap.get?_push_size _ rfl
  have oldD : ∀ b o, HI.get? b = some o → H2.get? b = some o := fun b o e => hH2 ▸ Heap.get?_push_of_some _ e
  clear hHI hH2
  generalize hIe : g.objs.size = I at *
  generalize hDe : HI.objs.size = D at *
  generalize hCe : H2.objs.size = C at *
  have hDI : @LT.lt Nat _ I D := by (first | lia | omega)
  have hCD : @LT.lt Nat _ D C := by (first | lia | omega)
  have old1 : ∀ b o, b ≠ C → H2.get? b = some o → h1.get? b = some o := fun b o hb e => hsb1.extBut b o hb (Heap.get?_push_of_some _ e)
  have old : ∀ b o, g.get? b = some o → h1.get? b = some o := fun b o e => old1 b o (Nat.ne_of_lt (Nat.lt_trans (hIe ▸ Heap.lt_size e) (Nat.lt_trans hDI hCD))) (oldD _ _ (oldI _ _ e))
  have hLlt : @LT.lt Nat _ L I := hIe ▸ F.ns.lt
  have fresh₀ : ∀ a, @LE.le Nat _ I a → h₀.get? a = none := fun a ha => Heap.get?_none_of_le (Nat.le_trans (Nat.le_of_lt (Nat.lt_of_le_of_lt F.above F.ns.lt)) (hIe ▸ ha))
  have hI₀ := fresh₀ I (Nat.le_refl _)
  have hD₀ := fresh₀ D (Nat.le_of_lt hDI)
  have hC₀ := fresh₀ C (Nat.le_of_lt (Nat.lt_trans hDI hCD))
  have below : ∀ p ∈ news, @LT.lt Nat _ p.1 I := fun p hp => hIe ▸ Heap.lt_size (N p hp).1
  have W := Walks.list (prog := prog) (w := w) (A := A) hh I ax (Nat.ne_of_lt (hIe ▸ hlt)) (es.map HE.ref).toArray
  have hn : (es.map HE.ref).toArray.size = es.length := by simp
  rw [hn] at W
  have st0 : h1.IsListIter I ax 0 ∧ h1.IsList ax (es.map HE.ref).toArray := ⟨⟨_, old1 _ _ (Nat.ne_of_lt (Nat.lt_trans hDI hCD)) (oldD _ _ hI), rfl, rfl⟩, isL (N.grown old) hm⟩
  have loop : codeAny (model prog w) A (.compLoop (.ListComp elt [⟨.Tuple [.Name a pa, .Name b pb] kk tp, iter, [c], 0⟩] scope pos) 0 (.ref I) (.ref D) (compEnvC scope cl C env)) (compPost (model prog w) A E none Q (.ref D) C) { s with heap := h1, toks := tk0 + ([] : List (PySem.Str × Value)).length } := by
    refine kct_loop (PcJ h₀ L m s I C D ax es news tst val) ?_ (es.length + 1)
      ⟨h1, _, 0, _, rfl, Nat.zero_le _, rfl, st0, F.keeps old, hns1, fun p hp => ?_⟩
    · rintro k s' ⟨h', tk, i, m', rfl, hi, rfl, hst, F', hn', N'⟩
      by_cases hlt : i < es.length
      · refine W.item i _ _ _ hlt hst fun v h2 tk2 hPv hst2 hk2 => ?_
        obtain ⟨e, he⟩ : ∃ e, es[i]? = some e := ⟨_, List.getElem?_eq_getElem hlt⟩
        have hev : v = e.ref := by
          have hP : (es.map HE.ref).toArray[i]? = some v := hPv
          rw [List.getElem?_toArray, List.getElem?_map, he] at hP
          exact (Option.some.inj hP).symm
        subst hev
        have hem := List.mem_of_getElem? he
        have N2 : News h₀ L h2 ((D, lst (outP tst val (es.take i))) :: news) := news_but N' hk2 (fun p hp => by
          rcases List.mem_cons.mp hp with rfl | hp
          · exact Nat.ne_of_gt hDI
          · exact Nat.ne_of_lt (below p hp))
        have ht : IsTup h2 e.a #[.str e.nm e.tn, .str e.vl e.tv] := ⟨_, (N2 _ (List.mem_cons_of_mem _ (hes e hem))).1, rfl, _, rfl⟩
        refine wpAny_letOwnedTupleGo_listiter hst2.1 ?_
        refine assign_Tuple_tuple hh ht rfl rfl fun h5 he5 => ?_
        have he' : ∀ b o, h2.get? b = some o → h5.get? b = some o := fun b o e => he5 b o (Nat.ne_of_lt (Heap.lt_size e)) e
        refine assignInOrder_cons (wpAny_assign_Name (wpAny_storeName_local (lookup_relabel_local hxa) ((hn'.at' fun o e => hk2 _ o (by simpa using Nat.ne_of_gt (Nat.lt_trans hDI hCD)) e).at' fun o e => he' _ o e) (fun h6 hn6 hs6 => ?_) (by simp [compEnvC, relabel, hkind])))
        refine assignInOrder_cons (wpAny_assign_Name (wpAny_storeName_local (lookup_relabel_local hxb) hn6 (fun h3 hn3 hs3 => ?_) (by simp [compEnvC, relabel, hkind])))
        refine assignInOrder_nil ?_
        have old3 : ∀ b o, b ≠ C → h2.get? b = some o → h3.get? b = some o := fun b o hb e => hs3.extBut b o hb (hs6.extBut b o hb (he' b o e))
        obtain ⟨oC, heC, hoC⟩ := ns_obj hn3
        obtain ⟨oI, heI, hcI, hdI⟩ := hst2.1
        have F3 : Fr h₀ L h3 m := (((fr_but F' hk2 (Nat.ne_of_lt hLlt) hI₀).keeps he').change hs6 (Nat.ne_of_gt (Nat.lt_trans hLlt (Nat.lt_trans hDI hCD))) hC₀).change hs3 (Nat.ne_of_gt (Nat.lt_trans hLlt (Nat.lt_trans hDI hCD))) hC₀
        have N3 : News h₀ L h3 ((I, oI) :: (C, oC) :: (D, lst (outP tst val (es.take i))) :: news) := fun p hp => by
          rcases List.mem_cons.mp hp with rfl | hp
          · exact ⟨old3 _ _ (Nat.ne_of_lt (Nat.lt_trans hDI hCD)) heI, Nat.ne_of_gt hLlt, hI₀⟩
          rcases List.mem_cons.mp hp with rfl | hp
          · exact ⟨heC, Nat.ne_of_gt (Nat.lt_trans hLlt (Nat.lt_trans hDI hCD)), hC₀⟩
          have z := N2 p hp
          refine ⟨old3 _ _ ?_ z.1, z.2⟩
          rcases List.mem_cons.mp hp with rfl | hp
          · exact Nat.ne_of_lt hCD
          · exact Nat.ne_of_lt (Nat.lt_trans (below p hp) (Nat.lt_trans hDI hCD))
        have fin : ∀ (h4 : Heap) (tk4 : Nat), Fr h₀ L h4 m → h4.get? I = some oI → h4.get? C = some oC → News h₀ L h4 ((D, lst (outP tst val (es.take (i + 1)))) :: news) →
            ∃ q, q < es.length + 1 - i ∧ PcJ h₀ L m s I C D ax es news tst val q { s with heap := h4, toks := tk4 } :=
          fun h4 tk4 F4 zI zC N4 => ⟨es.length + 1 - (i + 1), by (first | lia | omega), h4, tk4, i + 1, _, rfl, hlt, rfl, ⟨⟨oI, zI, hcI, hdI⟩, isL N4 (List.mem_cons_of_mem _ hm)⟩, F4, hoC.ns zC, N4⟩
        refine wpAny_mono (turn e hem I oI C oC D _ _ h3 _ _ hoC (by simp [hab]) (by simp) F3 N3) (fun ok s₃ hq => ?_) fun _ _ e => e
        obtain ⟨hok, h1t, h1f⟩ := hq
        cases ok with
        | false =>
          rw [if_neg (by decide)]
          obtain ⟨h4, tk4, rfl, F4, N4⟩ := h1f rfl
          refine fin h4 tk4 F4 (N4 (I, oI) (List.mem_cons_self ..)).1 (N4 (C, oC) (List.mem_cons_of_mem _ (List.mem_cons_self ..))).1 ?_
          rw [outP_succ he, if_neg (by rw [← hok]; decide)]
          exact cb_drop N4 fun p hp => List.mem_cons_of_mem _ (List.mem_cons_of_mem _ hp)
        | true =>
          rw [if_pos rfl]
          refine wpAny_mono (h1t rfl) (fun y s4 h4 => ?_) fun _ _ e => e
          obtain ⟨rfl, h4, tk4, rfl, F4, N4⟩ := h4
          have zD := (N4 (D, lst (outP tst val (es.take i))) (List.mem_cons_of_mem _ (List.mem_cons_of_mem _ (List.mem_cons_self ..)))).1
          refine append_at (hsz := ?hz) zD fun h7 hs7 hD7 => ?_
          case hz =>
            show (outP tst val (es.take i)).toArray.size ≤ sizeLine
            rw [List.size_toArray, outP, List.length_map]
            exact Nat.le_trans (List.length_filter_le _ _) (Nat.le_trans (List.length_take_le' _ _) hsz)
          have keep7 : ∀ p ∈ (I, oI) :: (C, oC) :: news, p.1 ≠ D := fun p hp => by
            rcases List.mem_cons.mp hp with rfl | hp
            · exact Nat.ne_of_lt hDI
            rcases List.mem_cons.mp hp with rfl | hp
            · exact Nat.ne_of_gt hCD
            · exact Nat.ne_of_lt (Nat.lt_trans (below p hp) hDI)
          refine fin h7 tk4 (F4.change hs7 (Nat.ne_of_gt (Nat.lt_trans hLlt hDI)) hD₀) (hs7.extBut _ _ (keep7 (I, oI) (List.mem_cons_self ..)) (N4 (I, oI) (List.mem_cons_self ..)).1) (hs7.extBut _ _ (keep7 (C, oC) (List.mem_cons_of_mem _ (List.mem_cons_self ..))) (N4 (C, oC) (List.mem_cons_of_mem _ (List.mem_cons_self ..))).1) (fun p hp => ?_)
          rw [outP_succ he, if_pos hok.symm] at hp
          rcases List.mem_cons.mp hp with rfl | hp
          · exact ⟨hD7.trans (congrArg some (lst_snoc _ _)), Nat.ne_of_gt (Nat.lt_trans hLlt hDI), hD₀⟩
          · have z := N4 p (List.mem_cons_of_mem _ (List.mem_cons_of_mem _ (List.mem_cons_of_mem _ hp)))
            exact ⟨hs7.extBut _ _ (keep7 p (List.mem_cons_of_mem _ (List.mem_cons_of_mem _ hp))) z.1, z.2⟩
      · obtain rfl : i = es.length := Nat.le_antisymm hi (Nat.not_lt.mp hlt)
        refine W.done _ _ _ hst fun h2 tk2 hk2 => ?_
        rw [List.take_length] at N'
        have N2 : News h₀ L h2 ((D, lst (outP tst val es)) :: news) := news_but N' hk2 (fun p hp => by
          rcases List.mem_cons.mp hp with rfl | hp
          · exact Nat.ne_of_gt hDI
          · exact Nat.ne_of_lt (below p hp))
        refine ⟨m', hn'.at' fun o e => hk2 _ o (by simpa using Nat.ne_of_gt (Nat.lt_trans hDI hCD)) e, fun h'' hs'' => fin D h'' tk2 ((fr_but F' hk2 (Nat.ne_of_lt hLlt) hI₀).change hs'' (Nat.ne_of_gt (Nat.lt_trans hLlt (Nat.lt_trans hDI hCD))) hC₀) (fun p hp => ?_) fun p hp => Nat.lt_trans (below p hp) hDI⟩
        have z := N2 p hp
        refine ⟨hs''.extBut _ _ ?_ z.1, z.2⟩
        rcases List.mem_cons.mp hp with rfl | hp
        · exact Nat.ne_of_lt hCD
        · exact Nat.ne_of_lt (Nat.lt_trans (below p hp) (Nat.lt_trans hDI hCD))
    · rcases List.mem_cons.mp hp with rfl | hp
      · exact ⟨old1 _ _ (Nat.ne_of_lt hCD) hD, Nat.ne_of_gt (Nat.lt_trans hLlt hDI), hD₀⟩
      · exact ⟨old _ _ (N p hp).1, (N p hp).2⟩
  exact codeAny_compStart_list loop (W.self 0 _ _ _ st0 loop)
end
end
end
theorem offLB1 : True := by
  w_top off
  exact True.intro
section
open PySem PySem.W PySem.Spec PySem.Calls PyProof.Rows
section
variable {w : World} {p : Program} {loose : List PySem.Str} {mean : ExcName → Option Value} {mg mb : PySem.Str → Option Value}
set_option maxHeartbeats 4000000 in
theorem lbHead {stm rest : List Stmt} {scope : Scope} (hb : (stm, scope) = ((forBody 9 (topFn 24).1).take 2, (topFn 24).2)) {i : Nat} (hi : i < 8)
    {dp un : Nat} {gd : Option (List Code)} {cn : PySem.Str} {cs : Scope} {L fa LL : Addr} {ccd : Value} {cl : List (PySem.Str × Addr)} {outer : List Env} {base gg : Heap} {m : PySem.Str → Option Value} {s : Shared} {E : Value → Shared → Prop} {Q : Flow → Shared → Prop}
    {l : List (Int × Int)} {xr dr lr : Addr} {tr : Tok} {esR : List HE} {cR : Nat} {tl : Led} {ti tS : Tok} {o1 o2 : Obj} {u1 u2 : Option Value}
    (BB : Below (ktrTop dp un gd cn cs L fa ccd cl outer) base (envX cn cs L fa ccd cl :: outer) gg) (XX : (Mine.hd.heap_1 w.params).In gg) (TT : Top p loose mean mg mb gg) (hC : Codes base) (hd : dp + 150 < recursionLimit) (hu : un + 8 * 150 < cLine)
    (hpr : In3 l) (F : Fr gg LL s.heap fun y => if y = "i" then some (.int (0 + (i : Int)) ti) else if y = "steps" then some (.str stepsT tS) else if y = "roads" then some (.ref xr) else m y)
    (N : News gg LL s.heap ((LL + 1 + 1 + 1, o1) :: (LL + 1 + 1, o2) :: (xr, instObj 252 dr) :: (dr, hDict w lr tr) :: (lr, lstC (List.map HE.ref esR) cR) :: tl)) (nd : DistL ((LL + 1 + 1 + 1, o1) :: (LL + 1 + 1, o2) :: (xr, instObj 252 dr) :: (dr, hDict w lr tr) :: (lr, lstC (List.map HE.ref esR) cR) :: tl)) (d1 : o1.data = .cell u1) (d2 : o2.data = .cell u2)
    (hR : ∀ e ∈ esR, e.obj ∈ tl) (tR : esR.map HE.tx = rdL l 8)
    (ret : ∀ h' tk o1' o2' t1 t2, Fr gg LL h' (fun y => if y = "i" then some (.int (0 + (i : Int)) ti) else if y = "steps" then some (.str stepsT tS) else if y = "roads" then some (.ref xr) else m y) → News gg LL h' ((LL + 1 + 1 + 1, o1') :: (LL + 1 + 1, o2') :: (xr, instObj 252 dr) :: (dr, hDict w lr tr) :: (lr, lstC (List.map HE.ref esR) cR) :: tl) → o1'.data = .cell (some (.str (key (par i)) t1)) → o2'.data = .cell (some (.str (ttT (town l (par i))) t2)) →
      wpAny (model PySem.Challenge.rw_wy0040_01.row.toRowW.prog w) ((ktrTop dp un gd cn cs L fa ccd cl outer).deeper (envOfC "_law_after" scope LL 266 (.ref 265))) (execs rest (envOfC "_law_after" scope LL 266 (.ref 265))) Q E { s with heap := h', toks := tk }) :
    wpAny (model PySem.Challenge.rw_wy0040_01.row.toRowW.prog w) ((ktrTop dp un gd cn cs L fa ccd cl outer).deeper (envOfC "_law_after" scope LL 266 (.ref 265))) (execs (stm ++ rest) (envOfC "_law_after" scope LL 266 (.ref 265))) Q E s := by
  conv at hb => {rhs; arg 1; whnf}
  conv at hb => {rhs; arg 2; whnf}
  simp only [Prod.mk.injEq] at hb
  obtain ⟨rfl, rfl⟩ := hb
  revert XX
  k_fill
  intro XX
  simp only [List.take_succ_cons, List.take_zero, List.cons_append, List.nil_append]
  try dsimp only
  (repeat' (first | (k_unfold; (try dsimp only)) | ((fail_if_success (with_reducible first | show wpAny _ _ (PySem.call (Value.ref _) _) _ _ _ | show wpAny _ _ (pyIter (Value.ref _)) _ _ _ | show wpAny _ _ (exec (Stmt.For _ _ _ _ _) _) _ _ _ | show wpAny _ _ (subscriptTail _ _ _ _) _ _ _ | show DEnd _ _ _ _ _ _ _ _ _ _ _ _ _ _ | show wpAny _ _ (setItem _ _ _) _ _ _ | show wpAny _ _ (getItem _ _) _ _ _ | show LCg.CompSrc _ _ _ _ _ _ _ _ _ _ _ _ _ _ | show LCg.CompEnd _ _ _ _ _ _ _ _ _ _ _ _ _ _ | show wpAny _ _ (eval (Expr.ListComp _ _ _ _) _) _ _ _ | show wpAny _ _ (eval (Expr.DictComp _ _ _ _ _) _) _ _ _ | show wpAny _ _ (exec (Stmt.Assign _ (Expr.ListComp _ _ _ _) _) _) _ _ _ | show wpAny _ _ (exec (Stmt.Assign _ (Expr.DictComp _ _ _ _ _) _) _) _ _ _ | show _ ≤ _)); (first | walk1 | (dsimp only; walk1)) <;> (try dsimp only)) | (leave1; try dsimp only) | fail "no step"))
  refine KXi.item (n := 8) (by rfl) (by (first | lia | omega)) (by (first | lia | omega)) (by decide) ?_
  intro _
  (repeat' (first | (k_unfold; (try dsimp only)) | ((fail_if_success (with_reducible first | show wpAny _ _ (PySem.call (Value.ref _) _) _ _ _ | show wpAny _ _ (pyIter (Value.ref _)) _ _ _ | show wpAny _ _ (exec (Stmt.For _ _ _ _ _) _) _ _ _ | show wpAny _ _ (subscriptTail _ _ _ _) _ _ _ | show DEnd _ _ _ _ _ _ _ _ _ _ _ _ _ _ | show wpAny _ _ (setItem _ _ _) _ _ _ | show wpAny _ _ (getItem _ _) _ _ _ | show LCg.CompSrc _ _ _ _ _ _ _ _ _ _ _ _ _ _ | show LCg.CompEnd _ _ _ _ _ _ _ _ _ _ _ _ _ _ | show wpAny _ _ (eval (Expr.ListComp _ _ _ _) _) _ _ _ | show wpAny _ _ (eval (Expr.DictComp _ _ _ _ _) _) _ _ _ | show wpAny _ _ (exec (Stmt.Assign _ (Expr.ListComp _ _ _ _) _) _) _ _ _ | show wpAny _ _ (exec (Stmt.Assign _ (Expr.DictComp _ _ _ _ _) _) _) _ _ _ | show _ ≤ _)); (first | walk1 | (dsimp only; walk1)) <;> (try dsimp only)) | (leave1; try dsimp only) | fail "no step"))
  have hke : PySem.Str.ofString "r" ++ PySem.Txt.item stepsT (0 + (i : Int)) = roaT i := by rw [Int.zero_add]; rfl
  have ht := txOk hpr hi
  obtain ⟨x1, x2⟩ := xor_at hi
  have hpl := par_lt i hi
  have hsp := DistL.split2 (a := [(LL + 1 + 1 + 1, o1), (LL + 1 + 1, o2), (xr, instObj 252 dr), (dr, hDict w lr tr), (lr, lstC (List.map HE.ref esR) cR)]) nd
  have hel : ∀ e ∈ esR, e.nm.length ≤ 1000 := fun e he => by
    have hm : e.tx ∈ rdL l 8 := tR ▸ List.mem_map_of_mem he
    obtain ⟨j, hj, e1⟩ := List.mem_map.mp hm
    rw [show e.nm = roaT j from (congrArg (·.1) e1).symm]
    exact Nat.le_trans (txOk hpr (List.mem_range.mp hj)).lr (by decide)
  have hlen : esR.length = 8 := by
    have := congrArg List.length tR
    simpa [rdL] using this
  obtain ⟨tv, hgv⟩ := rd_get (n := 8) (by decide) hi tR
  have hsub : ∀ q ∈ [(xr, instObj 252 dr), (dr, hDict w lr tr), (lr, lstC (List.map HE.ref esR) cR)] ++ List.map HE.obj esR, q ∈ (LL + 1 + 1 + 1, o1) :: (LL + 1 + 1, o2) :: (xr, instObj 252 dr) :: (dr, hDict w lr tr) :: (lr, lstC (List.map HE.ref esR) cR) :: tl := fun q hq => by
    rcases List.mem_append.mp hq with hq | hq
    · exact (by (with_reducible repeat' first | exact List.forall_mem_nil _ | refine List.forall_mem_cons.mpr ⟨?_, ?_⟩ | exact List.mem_cons_self .. | refine List.mem_cons_of_mem _ ?_) : ∀ q ∈ [(xr, instObj 252 dr), (dr, hDict w lr tr), (lr, lstC (List.map HE.ref esR) cR)], q ∈ (LL + 1 + 1 + 1, o1) :: (LL + 1 + 1, o2) :: (xr, instObj 252 dr) :: (dr, hDict w lr tr) :: (lr, lstC (List.map HE.ref esR) cR) :: tl) q hq
    · obtain ⟨e, he, rfl⟩ := List.mem_map.mp hq
      exact List.mem_append_right [(LL + 1 + 1 + 1, o1), (LL + 1 + 1, o2), (xr, instObj 252 dr), (dr, hDict w lr tr), (lr, lstC (List.map HE.ref esR) cR)] (hR e he)
  rw [hke]
  refine' Ok.use3 ?q1 F ?q3 N ?q5 ?q6 ?q7 (hget (nm := roaT i) (x := xr) (d := dr) (l := lr) (t := tr) (cp := cR) (es := esR) ht.cl ?d1 ?d2 ?d3 (fun e he => ⟨hsp (xr, instObj 252 dr) (by (with_reducible repeat' first | exact List.mem_cons_self .. | refine List.mem_cons_of_mem _ ?_)) _ (hR e he), hsp (dr, hDict w lr tr) (by (with_reducible repeat' first | exact List.mem_cons_self .. | refine List.mem_cons_of_mem _ ?_)) _ (hR e he), hsp (lr, lstC (List.map HE.ref esR) cR) (by (with_reducible repeat' first | exact List.mem_cons_self .. | refine List.mem_cons_of_mem _ ?_)) _ (hR e he)⟩) (by rw [hlen]; decide) (Nat.le_trans ht.lr (by decide)) hel) hsub ?qd ?qu ?_
  case q1 => k_asm
  case q3 => k_asm
  case q5 => k_asm
  case q6 => exact rfl
  case q7 => assumption
  case d1 => exact (nd.tl.tl.hd _ (List.mem_cons_self ..)).symm
  case d2 => exact (nd.tl.tl.hd _ (List.mem_cons_of_mem _ (List.mem_cons_self ..))).symm
  case d3 => exact (nd.tl.tl.tl.hd _ (List.mem_cons_self ..)).symm
  case qd => (first | exact room1 (by assumption) rfl | exact room0 (by assumption) | ktr_room)
  case qu => (first | exact units1 (by assumption) rfl | ktr_units)
  intro b9 r9 n9 h9 tk9 U9 F9 N9 K9 hp9
  obtain ⟨rfl, rfl⟩ := hp9
  have M9 := news_ro (ex := []) N hsub N9 K9
  simp only [List.nil_append] at M9
  clear N9 K9
  rw [hgv]
  try dsimp only
  (repeat' (first | (k_unfold; (try dsimp only)) | ((fail_if_success (with_reducible first | show wpAny _ _ (PySem.call (Value.ref _) _) _ _ _ | show wpAny _ _ (pyIter (Value.ref _)) _ _ _ | show wpAny _ _ (exec (Stmt.For _ _ _ _ _) _) _ _ _ | show wpAny _ _ (subscriptTail _ _ _ _) _ _ _ | show DEnd _ _ _ _ _ _ _ _ _ _ _ _ _ _ | show wpAny _ _ (setItem _ _ _) _ _ _ | show wpAny _ _ (getItem _ _) _ _ _ | show LCg.CompSrc _ _ _ _ _ _ _ _ _ _ _ _ _ _ | show LCg.CompEnd _ _ _ _ _ _ _ _ _ _ _ _ _ _ | show wpAny _ _ (eval (Expr.ListComp _ _ _ _) _) _ _ _ | show wpAny _ _ (eval (Expr.DictComp _ _ _ _ _) _) _ _ _ | show wpAny _ _ (exec (Stmt.Assign _ (Expr.ListComp _ _ _ _) _) _) _ _ _ | show wpAny _ _ (exec (Stmt.Assign _ (Expr.DictComp _ _ _ _ _) _) _) _ _ _ | show _ ≤ _)); (first | walk1 | (dsimp only; walk1)) <;> (try dsimp only)) | (leave1; try dsimp only) | fail "no step"))
  have hib : Builtin.Int.intBits ((0 : Int) + (i : Int)) ≤ 4000 := Nat.le_trans (intBits_le_64 (by (first | lia | omega)) (by (first | lia | omega))) (by decide)
  (k_dflt (refine' Ok.use ?k1n49 ?k2n49 ?k3n49 ?k4n49 ?k5n49 ?kKn49 ?kCn49 (cimod (by decide) hib (by decide +kernel)) ?kPn49 ?kapn49 ?kdn49 ?kun49 ?_); (case k1n49 | k2n49 | k3n49 | k4n49 | k5n49 => k_asm); (case kKn49 => exact rfl); (case kCn49 => assumption); (case kPn49 => (repeat' first | exact Picks.nil | (with_reducible exact Pick.head) | apply Picks.cons | apply Pick.tail)); (case kapn49 => (k_whole; unfold Apart; repeat' (first | exact List.forall_mem_nil _ | (refine List.forall_mem_cons.mpr ⟨?_, ?_⟩) | k_ne))); (case kdn49 => (first | exact room1 (by assumption) rfl | exact room0 (by assumption) | ktr_room)); (case kun49 => (first | exact units1 (by assumption) rfl | ktr_units)))
  intro b8 r8 n8 h8 tk8 U8 F8 N8 hp8
  obtain ⟨rfl, t8, rfl⟩ := hp8
  simp only [List.cons_append, List.nil_append, List.append_nil] at N8
  clear U8
  try dsimp only
  (repeat' (first | (k_unfold; (try dsimp only)) | ((fail_if_success (with_reducible first | show wpAny _ _ (PySem.call (Value.ref _) _) _ _ _ | show wpAny _ _ (pyIter (Value.ref _)) _ _ _ | show wpAny _ _ (exec (Stmt.For _ _ _ _ _) _) _ _ _ | show wpAny _ _ (subscriptTail _ _ _ _) _ _ _ | show DEnd _ _ _ _ _ _ _ _ _ _ _ _ _ _ | show wpAny _ _ (setItem _ _ _) _ _ _ | show wpAny _ _ (getItem _ _) _ _ _ | show LCg.CompSrc _ _ _ _ _ _ _ _ _ _ _ _ _ _ | show LCg.CompEnd _ _ _ _ _ _ _ _ _ _ _ _ _ _ | show wpAny _ _ (eval (Expr.ListComp _ _ _ _) _) _ _ _ | show wpAny _ _ (eval (Expr.DictComp _ _ _ _ _) _) _ _ _ | show wpAny _ _ (exec (Stmt.Assign _ (Expr.ListComp _ _ _ _) _) _) _ _ _ | show wpAny _ _ (exec (Stmt.Assign _ (Expr.DictComp _ _ _ _ _) _) _) _ _ _ | show _ ≤ _)); (first | walk1 | (dsimp only; walk1)) <;> (try dsimp only)) | (leave1; try dsimp only) | fail "no step"))
  (k_dflt (refine' Ok.use ?k1n50 ?k2n50 ?k3n50 ?k4n50 ?k5n50 ?kKn50 ?kCn50 (cixor) ?kPn50 ?kapn50 ?kdn50 ?kun50 ?_); (case k1n50 | k2n50 | k3n50 | k4n50 | k5n50 => k_asm); (case kKn50 => exact rfl); (case kCn50 => assumption); (case kPn50 => (repeat' first | exact Picks.nil | (with_reducible exact Pick.head) | apply Picks.cons | apply Pick.tail)); (case kapn50 => (k_whole; unfold Apart; repeat' (first | exact List.forall_mem_nil _ | (refine List.forall_mem_cons.mpr ⟨?_, ?_⟩) | k_ne))); (case kdn50 => (first | exact room1 (by assumption) rfl | exact room0 (by assumption) | ktr_room)); (case kun50 => (first | exact units1 (by assumption) rfl | ktr_units)))
  intro b7 r7 n7 h7 tk7 U7 F7 N7 hp7
  obtain ⟨rfl, t7, rfl⟩ := hp7
  simp only [List.cons_append, List.nil_append, List.append_nil] at N7
  clear U7
  rw [x1]
  try dsimp only
  (repeat' (first | (k_unfold; (try dsimp only)) | ((fail_if_success (with_reducible first | show wpAny _ _ (PySem.call (Value.ref _) _) _ _ _ | show wpAny _ _ (pyIter (Value.ref _)) _ _ _ | show wpAny _ _ (exec (Stmt.For _ _ _ _ _) _) _ _ _ | show wpAny _ _ (subscriptTail _ _ _ _) _ _ _ | show DEnd _ _ _ _ _ _ _ _ _ _ _ _ _ _ | show wpAny _ _ (setItem _ _ _) _ _ _ | show wpAny _ _ (getItem _ _) _ _ _ | show LCg.CompSrc _ _ _ _ _ _ _ _ _ _ _ _ _ _ | show LCg.CompEnd _ _ _ _ _ _ _ _ _ _ _ _ _ _ | show wpAny _ _ (eval (Expr.ListComp _ _ _ _) _) _ _ _ | show wpAny _ _ (eval (Expr.DictComp _ _ _ _ _) _) _ _ _ | show wpAny _ _ (exec (Stmt.Assign _ (Expr.ListComp _ _ _ _) _) _) _ _ _ | show wpAny _ _ (exec (Stmt.Assign _ (Expr.DictComp _ _ _ _ _) _) _) _ _ _ | show _ ≤ _)); (first | walk1 | (dsimp only; walk1)) <;> (try dsimp only)) | (leave1; try dsimp only) | fail "no step"))
  refine KXi.item (n := 2) ht.l1 (by (first | lia | omega)) (by (first | lia | omega)) (by decide) ?_
  intro _
  (repeat' (first | (k_unfold; (try dsimp only)) | ((fail_if_success (with_reducible first | show wpAny _ _ (PySem.call (Value.ref _) _) _ _ _ | show wpAny _ _ (pyIter (Value.ref _)) _ _ _ | show wpAny _ _ (exec (Stmt.For _ _ _ _ _) _) _ _ _ | show wpAny _ _ (subscriptTail _ _ _ _) _ _ _ | show DEnd _ _ _ _ _ _ _ _ _ _ _ _ _ _ | show wpAny _ _ (setItem _ _ _) _ _ _ | show wpAny _ _ (getItem _ _) _ _ _ | show LCg.CompSrc _ _ _ _ _ _ _ _ _ _ _ _ _ _ | show LCg.CompEnd _ _ _ _ _ _ _ _ _ _ _ _ _ _ | show wpAny _ _ (eval (Expr.ListComp _ _ _ _) _) _ _ _ | show wpAny _ _ (eval (Expr.DictComp _ _ _ _ _) _) _ _ _ | show wpAny _ _ (exec (Stmt.Assign _ (Expr.ListComp _ _ _ _) _) _) _ _ _ | show wpAny _ _ (exec (Stmt.Assign _ (Expr.DictComp _ _ _ _ _) _) _) _ _ _ | show _ ≤ _)); (first | walk1 | (dsimp only; walk1)) <;> (try dsimp only)) | (leave1; try dsimp only) | fail "no step"))
  rw [tt_to hpr hi]
  (rename Fr _ _ _ _ => lF1); (rename News _ _ _ _ => lN1)
  refine storeX_C lF1 (cb_drop (news := (LL + 1 + 1, o2) :: (LL + 1 + 1 + 1, o1) :: (xr, instObj 252 dr) :: (dr, hDict w lr tr) :: (lr, lstC (List.map HE.ref esR) cR) :: tl) lN1 (subB [[(LL + 1 + 1 + 1, o1)], [(LL + 1 + 1, o2)], [(xr, instObj 252 dr)], [(dr, hDict w lr tr)], [(lr, lstC (List.map HE.ref esR) cR)], tl] 5 [1, 0, 2, 3, 4] 5 [0, 1, 2, 3, 4] rfl : ∀ q ∈ (LL + 1 + 1, o2) :: (LL + 1 + 1 + 1, o1) :: (xr, instObj 252 dr) :: (dr, hDict w lr tr) :: (lr, lstC (List.map HE.ref esR) cR) :: tl, q ∈ (LL + 1 + 1 + 1, o1) :: (LL + 1 + 1, o2) :: (xr, instObj 252 dr) :: (dr, hDict w lr tr) :: (lr, lstC (List.map HE.ref esR) cR) :: tl)) rfl (.head (nd.mid (a := [(LL + 1 + 1 + 1, o1)]))) d2 ?_
  clear lF1 lN1
  intro h6 o2' F6 N6 d2'
  replace N6 := cb_drop (news := (LL + 1 + 1 + 1, o1) :: (LL + 1 + 1, o2') :: (xr, instObj 252 dr) :: (dr, hDict w lr tr) :: (lr, lstC (List.map HE.ref esR) cR) :: tl) N6 (subB [[(LL + 1 + 1, o2')], [(LL + 1 + 1 + 1, o1)], [(xr, instObj 252 dr)], [(dr, hDict w lr tr)], [(lr, lstC (List.map HE.ref esR) cR)], tl] 5 [1, 0, 2, 3, 4] 5 [0, 1, 2, 3, 4] rfl : ∀ q ∈ (LL + 1 + 1 + 1, o1) :: (LL + 1 + 1, o2') :: (xr, instObj 252 dr) :: (dr, hDict w lr tr) :: (lr, lstC (List.map HE.ref esR) cR) :: tl, q ∈ (LL + 1 + 1, o2') :: (LL + 1 + 1 + 1, o1) :: (xr, instObj 252 dr) :: (dr, hDict w lr tr) :: (lr, lstC (List.map HE.ref esR) cR) :: tl)
  try dsimp only
  (repeat' (first | (k_unfold; (try dsimp only)) | ((fail_if_success (with_reducible first | show wpAny _ _ (PySem.call (Value.ref _) _) _ _ _ | show wpAny _ _ (pyIter (Value.ref _)) _ _ _ | show wpAny _ _ (exec (Stmt.For _ _ _ _ _) _) _ _ _ | show wpAny _ _ (subscriptTail _ _ _ _) _ _ _ | show DEnd _ _ _ _ _ _ _ _ _ _ _ _ _ _ | show wpAny _ _ (setItem _ _ _) _ _ _ | show wpAny _ _ (getItem _ _) _ _ _ | show LCg.CompSrc _ _ _ _ _ _ _ _ _ _ _ _ _ _ | show LCg.CompEnd _ _ _ _ _ _ _ _ _ _ _ _ _ _ | show wpAny _ _ (eval (Expr.ListComp _ _ _ _) _) _ _ _ | show wpAny _ _ (eval (Expr.DictComp _ _ _ _ _) _) _ _ _ | show wpAny _ _ (exec (Stmt.Assign _ (Expr.ListComp _ _ _ _) _) _) _ _ _ | show wpAny _ _ (exec (Stmt.Assign _ (Expr.DictComp _ _ _ _ _) _) _) _ _ _ | show _ ≤ _)); (first | walk1 | (dsimp only; walk1)) <;> (try dsimp only)) | (leave1; try dsimp only) | fail "no step"))
  (k_dflt (refine' Ok.use ?k1n51 ?k2n51 ?k3n51 ?k4n51 ?k5n51 ?kKn51 ?kCn51 (cixor) ?kPn51 ?kapn51 ?kdn51 ?kun51 ?_); (case k1n51 | k2n51 | k3n51 | k4n51 | k5n51 => k_asm); (case kKn51 => exact rfl); (case kCn51 => assumption); (case kPn51 => (repeat' first | exact Picks.nil | (with_reducible exact Pick.head) | apply Picks.cons | apply Pick.tail)); (case kapn51 => (k_whole; unfold Apart; repeat' (first | exact List.forall_mem_nil _ | (refine List.forall_mem_cons.mpr ⟨?_, ?_⟩) | k_ne))); (case kdn51 => (first | exact room1 (by assumption) rfl | exact room0 (by assumption) | ktr_room)); (case kun51 => (first | exact units1 (by assumption) rfl | ktr_units)))
  intro b5 r5 n5 h5 tk5 U5 F5 N5 hp5
  obtain ⟨rfl, t5, rfl⟩ := hp5
  simp only [List.cons_append, List.nil_append, List.append_nil] at N5
  clear U5
  rw [x2]
  try dsimp only
  (repeat' (first | (k_unfold; (try dsimp only)) | ((fail_if_success (with_reducible first | show wpAny _ _ (PySem.call (Value.ref _) _) _ _ _ | show wpAny _ _ (pyIter (Value.ref _)) _ _ _ | show wpAny _ _ (exec (Stmt.For _ _ _ _ _) _) _ _ _ | show wpAny _ _ (subscriptTail _ _ _ _) _ _ _ | show DEnd _ _ _ _ _ _ _ _ _ _ _ _ _ _ | show wpAny _ _ (setItem _ _ _) _ _ _ | show wpAny _ _ (getItem _ _) _ _ _ | show LCg.CompSrc _ _ _ _ _ _ _ _ _ _ _ _ _ _ | show LCg.CompEnd _ _ _ _ _ _ _ _ _ _ _ _ _ _ | show wpAny _ _ (eval (Expr.ListComp _ _ _ _) _) _ _ _ | show wpAny _ _ (eval (Expr.DictComp _ _ _ _ _) _) _ _ _ | show wpAny _ _ (exec (Stmt.Assign _ (Expr.ListComp _ _ _ _) _) _) _ _ _ | show wpAny _ _ (exec (Stmt.Assign _ (Expr.DictComp _ _ _ _ _) _) _) _ _ _ | show _ ≤ _)); (first | walk1 | (dsimp only; walk1)) <;> (try dsimp only)) | (leave1; try dsimp only) | fail "no step"))
  refine KXi.item (n := 8) (by rfl) (by (first | lia | omega)) (by (first | lia | omega)) (by decide) ?_
  intro _
  (repeat' (first | (k_unfold; (try dsimp only)) | ((fail_if_success (with_reducible first | show wpAny _ _ (PySem.call (Value.ref _) _) _ _ _ | show wpAny _ _ (pyIter (Value.ref _)) _ _ _ | show wpAny _ _ (exec (Stmt.For _ _ _ _ _) _) _ _ _ | show wpAny _ _ (subscriptTail _ _ _ _) _ _ _ | show DEnd _ _ _ _ _ _ _ _ _ _ _ _ _ _ | show wpAny _ _ (setItem _ _ _) _ _ _ | show wpAny _ _ (getItem _ _) _ _ _ | show LCg.CompSrc _ _ _ _ _ _ _ _ _ _ _ _ _ _ | show LCg.CompEnd _ _ _ _ _ _ _ _ _ _ _ _ _ _ | show wpAny _ _ (eval (Expr.ListComp _ _ _ _) _) _ _ _ | show wpAny _ _ (eval (Expr.DictComp _ _ _ _ _) _) _ _ _ | show wpAny _ _ (exec (Stmt.Assign _ (Expr.ListComp _ _ _ _) _) _) _ _ _ | show wpAny _ _ (exec (Stmt.Assign _ (Expr.DictComp _ _ _ _ _) _) _) _ _ _ | show _ ≤ _)); (first | walk1 | (dsimp only; walk1)) <;> (try dsimp only)) | (leave1; try dsimp only) | fail "no step"))
  (rename Fr _ _ _ _ => lF1); (rename News _ _ _ _ => lN1)
  refine storeX_C lF1 lN1 rfl (.head (show DistL ((LL + 1 + 1 + 1, o1) :: (LL + 1 + 1, o2') :: (xr, instObj 252 dr) :: (dr, hDict w lr tr) :: (lr, lstC (List.map HE.ref esR) cR) :: tl) from nd).hd) d1 ?_
  clear lF1 lN1
  intro h4 o1' F4 N4 d1'
  try dsimp only
  (repeat' (first | (k_unfold; (try dsimp only)) | ((fail_if_success (with_reducible first | show wpAny _ _ (PySem.call (Value.ref _) _) _ _ _ | show wpAny _ _ (pyIter (Value.ref _)) _ _ _ | show wpAny _ _ (exec (Stmt.For _ _ _ _ _) _) _ _ _ | show wpAny _ _ (subscriptTail _ _ _ _) _ _ _ | show DEnd _ _ _ _ _ _ _ _ _ _ _ _ _ _ | show wpAny _ _ (setItem _ _ _) _ _ _ | show wpAny _ _ (getItem _ _) _ _ _ | show LCg.CompSrc _ _ _ _ _ _ _ _ _ _ _ _ _ _ | show LCg.CompEnd _ _ _ _ _ _ _ _ _ _ _ _ _ _ | show wpAny _ _ (eval (Expr.ListComp _ _ _ _) _) _ _ _ | show wpAny _ _ (eval (Expr.DictComp _ _ _ _ _) _) _ _ _ | show wpAny _ _ (exec (Stmt.Assign _ (Expr.ListComp _ _ _ _) _) _) _ _ _ | show wpAny _ _ (exec (Stmt.Assign _ (Expr.DictComp _ _ _ _ _) _) _) _ _ _ | show _ ≤ _)); (first | walk1 | (dsimp only; walk1)) <;> (try dsimp only)) | (leave1; try dsimp only) | fail "no step"))
  exact ret _ _ o1' o2' _ _ F4 N4 d1' d2'
end
end
theorem offLB2 : True := by
  w_top off
  exact True.intro
section
open PySem PySem.W PySem.Spec PySem.Calls PyProof.Rows
section
variable {w : World} {p : Program} {loose : List PySem.Str} {mean : ExcName → Option Value} {mg mb : PySem.Str → Option Value}
theorem OkL.use3 {f : Addr} {vs : List Value} {need : Nat} {news l : Led} {out : List Value} {dp un : Nat} {gd : Option (List Code)} {cn : PySem.Str} {cs : Scope} {a : Addr} {ccd : Value} {cl : List (PySem.Str × Addr)} {outer : List Env} {A₀ : Around} {base h₀ : Heap} {L : Addr} {m : PySem.Str → Option Value} {s : Shared}
    {Q E : Value → Shared → Prop} (B : Below A₀ base outer h₀) (F : Fr h₀ L s.heap m) (X : (hd.heap_1 w.params).In h₀) (N : News h₀ L s.heap l) (T : Top p loose mean mg mb h₀) (hk : cs.kind = .function)
    (C : OkL w p loose mean mg mb f vs need news out) (sub : ∀ q ∈ news, q ∈ l) (hd : dp + need < recursionLimit) (hu : un + 8 * need < cLine)
    (ret : ∀ l2 k h' tk', (∀ q ∈ l, @Ne Nat q.1 l2) → Fr h₀ L h' m → News h₀ L h' ((l2, lstC out k) :: l) → Q (.ref l2) { s with heap := h', toks := tk' }) :
    wpAny (model PySem.Challenge.rw_wy0040_01.row.toRowW.prog w) (ktrTop dp un gd cn cs L a ccd cl outer) (call (.ref f) vs) Q E s := by
  classical
  have hmem : ∀ q, q ∈ l.filter (fun q => decide (∀ p ∈ news, @Ne Nat p.1 q.1)) ↔ q ∈ l ∧ ∀ p ∈ news, @Ne Nat p.1 q.1 := fun q => by
    rw [List.mem_filter, decide_eq_true_iff]
  have hall : ∀ q ∈ l, q ∈ news ++ l.filter (fun q => decide (∀ p ∈ news, @Ne Nat p.1 q.1)) := fun q hq => by
    by_cases hn : ∀ p ∈ news, @Ne Nat p.1 q.1
    · exact List.mem_append_right _ ((hmem q).mpr ⟨hq, hn⟩)
    · obtain ⟨p, hp⟩ := Classical.not_forall.mp hn
      obtain ⟨hp, e⟩ := Classical.not_imp.mp hp
      have e' : p.1 = q.1 := Classical.not_not.mp e
      have h1 := (N p (sub p hp)).1
      rw [e', (N q hq).1] at h1
      have e2 : q = p := Prod.ext e'.symm (Option.some.inj h1)
      exact List.mem_append_left _ (e2 ▸ hp)
  exact C _ _ _ _ _ _ _ _ _ _ _ _ _ _ _ _ _ _ B F X (fun q hq => by
    rcases List.mem_append.mp hq with hq | hq
    · exact N q (sub q hq)
    · exact N q ((hmem q).mp hq).1) (fun p hp q hq => ((hmem q).mp hq).2 p hp) T hk hd hu (fun l2 k h' tk' ne F' N' => ret l2 k h' tk' (fun q hq => ne q (hall q hq)) F' (cb_drop N' fun q hq => by
      rcases List.mem_cons.mp hq with rfl | hq
      · exact List.mem_cons_self ..
      · exact List.mem_cons_of_mem _ (hall q hq)))
set_option maxHeartbeats 4000000 in
theorem lbWays {stm rest : List Stmt} {scope : Scope} (hb : (stm, scope) = (((forBody 9 (topFn 24).1).drop 2).take 1, (topFn 24).2)) {i : Nat} (hi : i < 8)
    {dp un : Nat} {gd : Option (List Code)} {cn : PySem.Str} {cs : Scope} {L fa LL : Addr} {ccd : Value} {cl : List (PySem.Str × Addr)} {outer : List Env} {base gg : Heap} {m : PySem.Str → Option Value} {s : Shared} {E : Value → Shared → Prop} {Q : Flow → Shared → Prop}
    {l : List (Int × Int)} {xr xd dd ld la : Addr} {td : Tok} {esD lsL : List HE} {cD cL : Nat} {tl : Led} {ti tS tt2 : Tok} {o1 o2 o3 : Obj}
    (BB : Below (ktrTop dp un gd cn cs L fa ccd cl outer) base (envX cn cs L fa ccd cl :: outer) gg) (XX : (Mine.hd.heap_1 w.params).In gg) (TT : Top p loose mean mg mb gg) (hC : Codes base) (hd : dp + 150 < recursionLimit) (hu : un + 8 * 150 < cLine)
    (hpr : In3 l) (F : Fr gg LL s.heap fun y => if y = "i" then some (.int (0 + (i : Int)) ti) else if y = "steps" then some (.str stepsT tS) else if y = "roads" then some (.ref xr) else if y = "doors" then some (.ref xd) else if y = "laid" then some (.ref la) else m y)
    (N : News gg LL s.heap ((LL + 1 + 1 + 1, o1) :: (LL + 1 + 1, o2) :: (LL + 1, o3) :: (xd, instObj 252 dd) :: (dd, hDict w ld td) :: (ld, lstC (List.map HE.ref esD) cD) :: (la, lstC (List.map HE.ref lsL) cL) :: tl)) (nd : DistL ((LL + 1 + 1 + 1, o1) :: (LL + 1 + 1, o2) :: (LL + 1, o3) :: (xd, instObj 252 dd) :: (dd, hDict w ld td) :: (ld, lstC (List.map HE.ref esD) cD) :: (la, lstC (List.map HE.ref lsL) cL) :: tl)) (d2 : o2.data = .cell (some (.str (ttT (town l (par i))) tt2)))
    (hD : ∀ e ∈ esD, e.obj ∈ tl) (tD : esD.map HE.tx = nmL l 8)
    (ret : ∀ h' tk W k, Fr gg LL h' (fun y => if y = "ways" then some (.ref W) else if y = "i" then some (.int (0 + (i : Int)) ti) else if y = "steps" then some (.str stepsT tS) else if y = "roads" then some (.ref xr) else if y = "doors" then some (.ref xd) else if y = "laid" then some (.ref la) else m y) → News gg LL h' ((W, lstC (allOf (ttT (town l (par i))) esD) k) :: (LL + 1 + 1 + 1, o1) :: (LL + 1 + 1, o2) :: (LL + 1, o3) :: (xd, instObj 252 dd) :: (dd, hDict w ld td) :: (ld, lstC (List.map HE.ref esD) cD) :: (la, lstC (List.map HE.ref lsL) cL) :: tl) → (∀ q ∈ (LL + 1 + 1 + 1, o1) :: (LL + 1 + 1, o2) :: (LL + 1, o3) :: (xd, instObj 252 dd) :: (dd, hDict w ld td) :: (ld, lstC (List.map HE.ref esD) cD) :: (la, lstC (List.map HE.ref lsL) cL) :: tl, @Ne Nat q.1 W) →
      wpAny (model PySem.Challenge.rw_wy0040_01.row.toRowW.prog w) ((ktrTop dp un gd cn cs L fa ccd cl outer).deeper (envOfC "_law_after" scope LL 266 (.ref 265))) (execs rest (envOfC "_law_after" scope LL 266 (.ref 265))) Q E { s with heap := h', toks := tk }) :
    wpAny (model PySem.Challenge.rw_wy0040_01.row.toRowW.prog w) ((ktrTop dp un gd cn cs L fa ccd cl outer).deeper (envOfC "_law_after" scope LL 266 (.ref 265))) (execs (stm ++ rest) (envOfC "_law_after" scope LL 266 (.ref 265))) Q E s := by
  have htt := ttOk (town_lt hpr (par i))
  have hsp := DistL.split2 (a := [(LL + 1 + 1 + 1, o1), (LL + 1 + 1, o2), (LL + 1, o3), (xd, instObj 252 dd), (dd, hDict w ld td), (ld, lstC (List.map HE.ref esD) cD), (la, lstC (List.map HE.ref lsL) cL)]) nd
  have hlen : esD.length = 8 := by
    have := congrArg List.length tD
    simpa [nmL] using this
  have hel : ∀ e ∈ esD, e.nm.length ≤ 1000 := fun e he => by
    have hm : e.tx ∈ nmL l 8 := tD ▸ List.mem_map_of_mem he
    obtain ⟨j, hj, e1⟩ := List.mem_map.mp hm
    rw [show e.nm = namT j (fwT l j) from (congrArg (·.1) e1).symm]
    exact Nat.le_trans (txOk hpr (List.mem_range.mp hj)).ln (by decide)
  have hsub : ∀ q ∈ [(xd, instObj 252 dd), (dd, hDict w ld td), (ld, lstC (List.map HE.ref esD) cD)] ++ List.map HE.obj esD, q ∈ (LL + 1 + 1 + 1, o1) :: (LL + 1 + 1, o2) :: (LL + 1, o3) :: (xd, instObj 252 dd) :: (dd, hDict w ld td) :: (ld, lstC (List.map HE.ref esD) cD) :: (la, lstC (List.map HE.ref lsL) cL) :: tl := fun q hq => by
    rcases List.mem_append.mp hq with hq | hq
    · exact (by (with_reducible repeat' first | exact List.forall_mem_nil _ | refine List.forall_mem_cons.mpr ⟨?_, ?_⟩ | exact List.mem_cons_self .. | refine List.mem_cons_of_mem _ ?_) : ∀ q ∈ [(xd, instObj 252 dd), (dd, hDict w ld td), (ld, lstC (List.map HE.ref esD) cD)], q ∈ (LL + 1 + 1 + 1, o1) :: (LL + 1 + 1, o2) :: (LL + 1, o3) :: (xd, instObj 252 dd) :: (dd, hDict w ld td) :: (ld, lstC (List.map HE.ref esD) cD) :: (la, lstC (List.map HE.ref lsL) cL) :: tl) q hq
    · obtain ⟨e, he, rfl⟩ := List.mem_map.mp hq
      exact List.mem_append_right [(LL + 1 + 1 + 1, o1), (LL + 1 + 1, o2), (LL + 1, o3), (xd, instObj 252 dd), (dd, hDict w ld td), (ld, lstC (List.map HE.ref esD) cD), (la, lstC (List.map HE.ref lsL) cL)] (hD e he)
  have hcall : ∀ (nm : PySem.Str) (tn : Tok) (Q' E' : Value → Shared → Prop) (h1 : Heap) (tk1 : Nat), PySem.Txt.lower nm = ttT (town l (par i)) → nm.length ≤ 8 → Fr gg LL h1 (fun y => if y = "i" then some (.int (0 + (i : Int)) ti) else if y = "steps" then some (.str stepsT tS) else if y = "roads" then some (.ref xr) else if y = "doors" then some (.ref xd) else if y = "laid" then some (.ref la) else m y) → News gg LL h1 ((LL + 1 + 1 + 1, o1) :: (LL + 1 + 1, o2) :: (LL + 1, o3) :: (xd, instObj 252 dd) :: (dd, hDict w ld td) :: (ld, lstC (List.map HE.ref esD) cD) :: (la, lstC (List.map HE.ref lsL) cL) :: tl) →
      (∀ l2 k h' tk', (∀ q ∈ (LL + 1 + 1 + 1, o1) :: (LL + 1 + 1, o2) :: (LL + 1, o3) :: (xd, instObj 252 dd) :: (dd, hDict w ld td) :: (ld, lstC (List.map HE.ref esD) cD) :: (la, lstC (List.map HE.ref lsL) cL) :: tl, @Ne Nat q.1 l2) → Fr gg LL h' (fun y => if y = "i" then some (.int (0 + (i : Int)) ti) else if y = "steps" then some (.str stepsT tS) else if y = "roads" then some (.ref xr) else if y = "doors" then some (.ref xd) else if y = "laid" then some (.ref la) else m y) → News gg LL h' ((l2, lstC (allOf (ttT (town l (par i))) esD) k) :: (LL + 1 + 1 + 1, o1) :: (LL + 1 + 1, o2) :: (LL + 1, o3) :: (xd, instObj 252 dd) :: (dd, hDict w ld td) :: (ld, lstC (List.map HE.ref esD) cD) :: (la, lstC (List.map HE.ref lsL) cL) :: tl) → Q' (.ref l2) { s with heap := h', toks := tk' }) →
      wpAny (model PySem.Challenge.rw_wy0040_01.row.toRowW.prog w) ((ktrTop dp un gd cn cs L fa ccd cl outer).deeper (envOfC "_law_after" scope LL 266 (.ref 265))) (call (.ref 191) [.ref xd, .str nm tn]) Q' E' { s with heap := h1, toks := tk1 } := by
    intro nm tn Q' E' h1 tk1 e1 e2 F1 N1 hq
    have hc := hall (w := w) (p := p) (loose := loose) (mean := mean) (mg := mg) (mb := mb) (tn := tn) (nm := nm) (x := xd) (d := dd) (l := ld) (t := td) (cp := cD) (es := esD) (by rw [e1]; exact htt.cl) (nd.tl.tl.tl.hd _ (List.mem_cons_self ..)).symm (nd.tl.tl.tl.hd _ (List.mem_cons_of_mem _ (List.mem_cons_self ..))).symm (nd.tl.tl.tl.tl.hd _ (List.mem_cons_self ..)).symm (fun e he => ⟨hsp (xd, instObj 252 dd) (by (with_reducible repeat' first | exact List.mem_cons_self .. | refine List.mem_cons_of_mem _ ?_)) _ (hD e he), hsp (dd, hDict w ld td) (by (with_reducible repeat' first | exact List.mem_cons_self .. | refine List.mem_cons_of_mem _ ?_)) _ (hD e he), hsp (ld, lstC (List.map HE.ref esD) cD) (by (with_reducible repeat' first | exact List.mem_cons_self .. | refine List.mem_cons_of_mem _ ?_)) _ (hD e he)⟩) (by rw [hlen]; decide) (Nat.le_trans e2 (by decide)) hel
    rw [e1] at hc
    refine' OkL.use3 ?q1 F1 ?q3 N1 ?q5 ?q6 hc hsub ?qd ?qu hq
    case q1 => k_asm
    case q3 => k_asm
    case q5 => k_asm
    case q6 => exact (congrArg (fun x : List Stmt × Scope => x.2.kind) hb).trans rfl
    case qd => (first | exact room1 (by assumption) rfl | exact room0 (by assumption) | ktr_room)
    case qu => (first | exact units1 (by assumption) rfl | ktr_units)
  conv at hb => {rhs; arg 1; whnf}
  conv at hb => {rhs; arg 2; whnf}
  simp only [Prod.mk.injEq] at hb
  obtain ⟨rfl, rfl⟩ := hb
  revert XX
  k_fill
  intro XX
  simp only [List.take_succ_cons, List.take_zero, List.cons_append, List.nil_append]
  try dsimp only
  (repeat' (first | (k_unfold; (try dsimp only)) | ((fail_if_success (with_reducible first | show wpAny _ _ (PySem.call (Value.ref _) _) _ _ _ | show wpAny _ _ (pyIter (Value.ref _)) _ _ _ | show wpAny _ _ (exec (Stmt.For _ _ _ _ _) _) _ _ _ | show wpAny _ _ (subscriptTail _ _ _ _) _ _ _ | show DEnd _ _ _ _ _ _ _ _ _ _ _ _ _ _ | show wpAny _ _ (setItem _ _ _) _ _ _ | show wpAny _ _ (getItem _ _) _ _ _ | show LCg.CompSrc _ _ _ _ _ _ _ _ _ _ _ _ _ _ | show LCg.CompEnd _ _ _ _ _ _ _ _ _ _ _ _ _ _ | show wpAny _ _ (eval (Expr.ListComp _ _ _ _) _) _ _ _ | show wpAny _ _ (eval (Expr.DictComp _ _ _ _ _) _) _ _ _ | show wpAny _ _ (exec (Stmt.Assign _ (Expr.ListComp _ _ _ _) _) _) _ _ _ | show wpAny _ _ (exec (Stmt.Assign _ (Expr.DictComp _ _ _ _ _) _) _) _ _ _ | show _ ≤ _)); (first | walk1 | (dsimp only; walk1)) <;> (try dsimp only)) | (leave1; try dsimp only) | fail "no step"))
  · refine hcall _ _ _ _ _ _ htt.lo htt.ln (by k_asm) (by k_asm) ?_
    intro l2 k h' tk' hne F' N'
    (repeat' (first | (k_unfold; (try dsimp only)) | ((fail_if_success (with_reducible first | show wpAny _ _ (PySem.call (Value.ref _) _) _ _ _ | show wpAny _ _ (pyIter (Value.ref _)) _ _ _ | show wpAny _ _ (exec (Stmt.For _ _ _ _ _) _) _ _ _ | show wpAny _ _ (subscriptTail _ _ _ _) _ _ _ | show DEnd _ _ _ _ _ _ _ _ _ _ _ _ _ _ | show wpAny _ _ (setItem _ _ _) _ _ _ | show wpAny _ _ (getItem _ _) _ _ _ | show LCg.CompSrc _ _ _ _ _ _ _ _ _ _ _ _ _ _ | show LCg.CompEnd _ _ _ _ _ _ _ _ _ _ _ _ _ _ | show wpAny _ _ (eval (Expr.ListComp _ _ _ _) _) _ _ _ | show wpAny _ _ (eval (Expr.DictComp _ _ _ _ _) _) _ _ _ | show wpAny _ _ (exec (Stmt.Assign _ (Expr.ListComp _ _ _ _) _) _) _ _ _ | show wpAny _ _ (exec (Stmt.Assign _ (Expr.DictComp _ _ _ _ _) _) _) _ _ _ | show _ ≤ _)); (first | walk1 | (dsimp only; walk1)) <;> (try dsimp only)) | (leave1; try dsimp only) | fail "no step"))
    (rename Fr _ _ _ _ => lF1); (rename News _ _ _ _ => lN1)
    exact ret _ _ l2 k lF1 lN1 hne
  · try dsimp only
    refine SCL.upper (Nat.le_trans htt.ln (by decide)) ?_
    intro _
    (repeat' (first | (k_unfold; (try dsimp only)) | ((fail_if_success (with_reducible first | show wpAny _ _ (PySem.call (Value.ref _) _) _ _ _ | show wpAny _ _ (pyIter (Value.ref _)) _ _ _ | show wpAny _ _ (exec (Stmt.For _ _ _ _ _) _) _ _ _ | show wpAny _ _ (subscriptTail _ _ _ _) _ _ _ | show DEnd _ _ _ _ _ _ _ _ _ _ _ _ _ _ | show wpAny _ _ (setItem _ _ _) _ _ _ | show wpAny _ _ (getItem _ _) _ _ _ | show LCg.CompSrc _ _ _ _ _ _ _ _ _ _ _ _ _ _ | show LCg.CompEnd _ _ _ _ _ _ _ _ _ _ _ _ _ _ | show wpAny _ _ (eval (Expr.ListComp _ _ _ _) _) _ _ _ | show wpAny _ _ (eval (Expr.DictComp _ _ _ _ _) _) _ _ _ | show wpAny _ _ (exec (Stmt.Assign _ (Expr.ListComp _ _ _ _) _) _) _ _ _ | show wpAny _ _ (exec (Stmt.Assign _ (Expr.DictComp _ _ _ _ _) _) _) _ _ _ | show _ ≤ _)); (first | walk1 | (dsimp only; walk1)) <;> (try dsimp only)) | (leave1; try dsimp only) | fail "no step"))
    refine hcall _ _ _ _ _ _ htt.lu htt.lp (by k_asm) (by k_asm) ?_
    intro l2 k h' tk' hne F' N'
    (repeat' (first | (k_unfold; (try dsimp only)) | ((fail_if_success (with_reducible first | show wpAny _ _ (PySem.call (Value.ref _) _) _ _ _ | show wpAny _ _ (pyIter (Value.ref _)) _ _ _ | show wpAny _ _ (exec (Stmt.For _ _ _ _ _) _) _ _ _ | show wpAny _ _ (subscriptTail _ _ _ _) _ _ _ | show DEnd _ _ _ _ _ _ _ _ _ _ _ _ _ _ | show wpAny _ _ (setItem _ _ _) _ _ _ | show wpAny _ _ (getItem _ _) _ _ _ | show LCg.CompSrc _ _ _ _ _ _ _ _ _ _ _ _ _ _ | show LCg.CompEnd _ _ _ _ _ _ _ _ _ _ _ _ _ _ | show wpAny _ _ (eval (Expr.ListComp _ _ _ _) _) _ _ _ | show wpAny _ _ (eval (Expr.DictComp _ _ _ _ _) _) _ _ _ | show wpAny _ _ (exec (Stmt.Assign _ (Expr.ListComp _ _ _ _) _) _) _ _ _ | show wpAny _ _ (exec (Stmt.Assign _ (Expr.DictComp _ _ _ _ _) _) _) _ _ _ | show _ ≤ _)); (first | walk1 | (dsimp only; walk1)) <;> (try dsimp only)) | (leave1; try dsimp only) | fail "no step"))
    (rename Fr _ _ _ _ => lF1); (rename News _ _ _ _ => lN1)
    exact ret _ _ l2 k lF1 lN1 hne
end
end
theorem offLB3 : True := by
  w_top off
  exact True.intro
section
open PySem PySem.W PySem.Spec PySem.Calls PyProof.Rows
section
variable {w : World} {p : Program} {loose : List PySem.Str} {mean : ExcName → Option Value} {mg mb : PySem.Str → Option Value}
theorem dat_filter (P : PySem.Str × PySem.Str → Bool) : ∀ es : List HE, DatAll [] ((es.filter fun e => P e.tx).map fun e => Value.str e.vl e.tv) (((es.map HE.tx).filter P).map fun q => Dat.str q.2)
  | [] => .nil
  | e :: r => by
    rw [List.map_cons, List.filter_cons, List.filter_cons]
    split
    · exact .cons (.str _ _) (dat_filter P r)
    · exact dat_filter P r
theorem nm_filter {l : List (Int × Int)} (h : In3 l) (i : Nat) : ((nmL l 8).filter fun q => PySem.Txt.lower q.1 == ttT (town l (par i))).map (fun q => Dat.str q.2) = (nbr (town l) i).map fun j => Dat.str (key j) := by
  unfold nmL nbr
  rw [List.filter_map, List.map_map]
  congr 1
  refine List.filter_congr fun j hj => ?_
  show (PySem.Txt.lower (namT j (fwT l j)) == ttT (town l (par i))) = _
  rw [(txOk h (List.mem_range.mp hj)).lo, Bool.eq_iff_iff, beq_iff_eq, decide_eq_true_iff]
  exact tt_inj (town_lt h j) (town_lt h (par i))
theorem all_dat {l : List (Int × Int)} (h : In3 l) {es : List HE} (he : es.map HE.tx = nmL l 8) (i : Nat) : DatAll [] (allOf (ttT (town l (par i))) es) ((nbr (town l) i).map fun j => Dat.str (key j)) := by
  have q := dat_filter (fun q => PySem.Txt.lower q.1 == ttT (town l (par i))) es
  rw [he, nm_filter h] at q
  exact q
theorem dat_at {vs : List Value} {js : List Nat} {i : Nat} {v : Value} (h : DatAll [] vs (js.map fun j => Dat.str (key j))) (e : vs[i]? = some v) : ∃ j t, js[i]? = some j ∧ v = .str (key j) t := by
  induction js generalizing vs i with
  | nil => cases h; simp at e
  | cons j js ih =>
    rw [List.map_cons] at h
    cases h with
    | cons a r =>
      cases a with
      | str _ t =>
        cases i with
        | zero => exact ⟨j, t, rfl, (Option.some.inj e).symm⟩
        | succ i =>
          obtain ⟨j', t', e1, e2⟩ := ih (i := i) r (by simpa using e)
          exact ⟨j', t', by simpa using e1, e2⟩
set_option maxHeartbeats 4000000 in
theorem lbTest {stm rest : List Stmt} {scope : Scope} (hb : (stm, scope) = (((forBody 9 (topFn 24).1).drop 3).take 1, (topFn 24).2)) {i : Nat} (hi : i < 8)
    {dp un : Nat} {gd : Option (List Code)} {cn : PySem.Str} {cs : Scope} {L fa LL : Addr} {ccd : Value} {cl : List (PySem.Str × Addr)} {outer : List Env} {base gg : Heap} {m : PySem.Str → Option Value} {s : Shared} {E : Value → Shared → Prop} {Q : Flow → Shared → Prop}
    {l : List (Int × Int)} {xr xd W la : Addr} {lsL : List HE} {cL kW : Nat} {tl : Led} {ti tS tt2 : Tok} {o1 o2 o3 : Obj} {out : List Value}
    (BB : Below (ktrTop dp un gd cn cs L fa ccd cl outer) base (envX cn cs L fa ccd cl :: outer) gg) (XX : (Mine.hd.heap_1 w.params).In gg) (TT : Top p loose mean mg mb gg) (hC : Codes base) (hd : dp + 150 < recursionLimit) (hu : un + 8 * 150 < cLine)
    (hpr : In3 l) (F : Fr gg LL s.heap fun y => if y = "ways" then some (.ref W) else if y = "i" then some (.int (0 + (i : Int)) ti) else if y = "steps" then some (.str stepsT tS) else if y = "roads" then some (.ref xr) else if y = "doors" then some (.ref xd) else if y = "laid" then some (.ref la) else m y)
    (N : News gg LL s.heap ((W, lstC out kW) :: (LL + 1 + 1 + 1, o1) :: (LL + 1 + 1, o2) :: (LL + 1, o3) :: (la, lstC (List.map HE.ref lsL) cL) :: tl)) (d2 : o2.data = .cell (some (.str (ttT (town l (par i))) tt2)))
    (hL : ∀ e ∈ lsL, e.obj ∈ tl) (tL : lsL.map HE.tx = nmL l 8) (hout : DatAll [] out ((nbr (town l) i).map fun j => Dat.str (key j)))
    (ret : ∀ h' tk, Fr gg LL h' (fun y => if y = "ways" then some (.ref W) else if y = "i" then some (.int (0 + (i : Int)) ti) else if y = "steps" then some (.str stepsT tS) else if y = "roads" then some (.ref xr) else if y = "doors" then some (.ref xd) else if y = "laid" then some (.ref la) else m y) → News gg LL h' ((W, lstC out kW) :: (LL + 1 + 1 + 1, o1) :: (LL + 1 + 1, o2) :: (LL + 1, o3) :: (la, lstC (List.map HE.ref lsL) cL) :: tl) →
      wpAny (model PySem.Challenge.rw_wy0040_01.row.toRowW.prog w) ((ktrTop dp un gd cn cs L fa ccd cl outer).deeper (envOfC "_law_after" scope LL 266 (.ref 265))) (execs rest (envOfC "_law_after" scope LL 266 (.ref 265))) Q E { s with heap := h', toks := tk }) :
    wpAny (model PySem.Challenge.rw_wy0040_01.row.toRowW.prog w) ((ktrTop dp un gd cn cs L fa ccd cl outer).deeper (envOfC "_law_after" scope LL 266 (.ref 265))) (execs (stm ++ rest) (envOfC "_law_after" scope LL 266 (.ref 265))) Q E s := by
  conv at hb => {rhs; arg 1; whnf}
  conv at hb => {rhs; arg 2; whnf}
  simp only [Prod.mk.injEq] at hb
  obtain ⟨rfl, rfl⟩ := hb
  revert XX
  k_fill
  intro XX
  simp only [List.take_succ_cons, List.take_zero, List.cons_append, List.nil_append]
  try dsimp only
  (repeat' (first | (k_unfold; (try dsimp only)) | ((fail_if_success (with_reducible first | show wpAny _ _ (PySem.call (Value.ref _) _) _ _ _ | show wpAny _ _ (pyIter (Value.ref _)) _ _ _ | show wpAny _ _ (exec (Stmt.For _ _ _ _ _) _) _ _ _ | show wpAny _ _ (subscriptTail _ _ _ _) _ _ _ | show DEnd _ _ _ _ _ _ _ _ _ _ _ _ _ _ | show wpAny _ _ (setItem _ _ _) _ _ _ | show wpAny _ _ (getItem _ _) _ _ _ | show LCg.CompSrc _ _ _ _ _ _ _ _ _ _ _ _ _ _ | show LCg.CompEnd _ _ _ _ _ _ _ _ _ _ _ _ _ _ | show wpAny _ _ (eval (Expr.ListComp _ _ _ _) _) _ _ _ | show wpAny _ _ (eval (Expr.DictComp _ _ _ _ _) _) _ _ _ | show wpAny _ _ (exec (Stmt.Assign _ (Expr.ListComp _ _ _ _) _) _) _ _ _ | show wpAny _ _ (exec (Stmt.Assign _ (Expr.DictComp _ _ _ _ _) _) _) _ _ _ | show _ ≤ _)); (first | walk1 | (dsimp only; walk1)) <;> (try dsimp only)) | (leave1; try dsimp only) | fail "no step"))
  refine' pcomp (h₀ := gg) (L := LL) (m := fun y => if y = "ways" then some (.ref W) else if y = "i" then some (.int (0 + (i : Int)) ti) else if y = "steps" then some (.str stepsT tS) else if y = "roads" then some (.ref xr) else if y = "doors" then some (.ref xd) else if y = "laid" then some (.ref la) else m y) (ax := la) (es := lsL) (k := cL) (news := (W, lstC out kW) :: (LL + 1 + 1 + 1, o1) :: (LL + 1 + 1, o2) :: (LL + 1, o3) :: (la, lstC (List.map HE.ref lsL) cL) :: tl) (tst := fun e => PySem.Txt.lower e.nm == ttT (town l (par i))) (val := fun e => .str e.vl e.tv) (by rfl) ?c2 ?c3 ?c4 ?c5 ?c6 ?c7 ?c8 ?c9 ?c10 ?c11 ?c12 ?c13 ?c14 (by intro _; rfl)
  case c2 => exact rfl
  case c3 => decide
  case c4 => exact rfl
  case c5 => decide
  case c6 => exact rfl
  case c7 => exact rfl
  case c8 => decide
  case c9 => (with_reducible repeat' first | exact List.mem_cons_self .. | refine List.mem_cons_of_mem _ ?_)
  case c10 => exact fun e he => List.mem_append_right [(W, lstC out kW), (LL + 1 + 1 + 1, o1), (LL + 1 + 1, o2), (LL + 1, o3), (la, lstC (List.map HE.ref lsL) cL)] (hL e he)
  case c11 =>
    have := congrArg List.length tL
    rw [List.length_map] at this
    rw [this]
    simp only [nmL, List.length_map, List.length_range]
    decide
  case c12 =>
    walk1
    exact ⟨rfl, s.heap, s.toks, rfl, F, N⟩
  case c13 =>
    intro e he
    unfold PTurn
    intro I oI C oC D ys m2 h1 tk1 E1 hCo hxa hxb F1 N1
    walk1
    walk1
    walk1
    walk1
    walk1
    walk1
    try dsimp only
    have hle : e.nm.length ≤ 8 := by
      have hm : e.tx ∈ nmL l 8 := tL ▸ List.mem_map_of_mem he
      obtain ⟨j, hj, e1⟩ := List.mem_map.mp hm
      rw [show e.nm = namT j (fwT l j) from (congrArg (·.1) e1).symm]
      exact (txOk hpr (List.mem_range.mp hj)).ln
    refine SCL.lower (Nat.le_trans hle (by decide)) ?_
    intro _
    walk1
    walk1
    walk1
    refine ⟨rfl, fun _ => ?_, fun _ => ⟨_, _, rfl, F1, N1⟩⟩
    walk1
    exact ⟨rfl, _, _, rfl, F1, N1⟩
  case c14 =>
    intro D h1 tk1 F1 N1 lD
    have hok : ∀ d ∈ (nbr (town l) i).map (fun j => Dat.str (key j)), kqdOk 8 d = true := fun d hd => by
      obtain ⟨j, hj, rfl⟩ := List.mem_map.mp hd
      exact (txOk hpr (List.mem_range.mp (List.mem_filter.mp hj).1)).ok
    refine kqd_ne_same N1 (a := W) (b := D) (by (with_reducible repeat' first | exact List.mem_cons_self .. | refine List.mem_cons_of_mem _ ?_)) rfl rfl (n₁ := []) hout (fun _ h => nomatch h) (by (with_reducible repeat' first | exact List.mem_cons_self .. | refine List.mem_cons_of_mem _ ?_)) rfl rfl (n₂ := []) (all_dat hpr tL i) (fun _ h => nomatch h) hok ?b3 ?_
    case b3 => (first | exact units1 (by assumption) rfl | ktr_units)
    (repeat' (first | (k_unfold; (try dsimp only)) | ((fail_if_success (with_reducible first | show wpAny _ _ (PySem.call (Value.ref _) _) _ _ _ | show wpAny _ _ (pyIter (Value.ref _)) _ _ _ | show wpAny _ _ (exec (Stmt.For _ _ _ _ _) _) _ _ _ | show wpAny _ _ (subscriptTail _ _ _ _) _ _ _ | show DEnd _ _ _ _ _ _ _ _ _ _ _ _ _ _ | show wpAny _ _ (setItem _ _ _) _ _ _ | show wpAny _ _ (getItem _ _) _ _ _ | show LCg.CompSrc _ _ _ _ _ _ _ _ _ _ _ _ _ _ | show LCg.CompEnd _ _ _ _ _ _ _ _ _ _ _ _ _ _ | show wpAny _ _ (eval (Expr.ListComp _ _ _ _) _) _ _ _ | show wpAny _ _ (eval (Expr.DictComp _ _ _ _ _) _) _ _ _ | show wpAny _ _ (exec (Stmt.Assign _ (Expr.ListComp _ _ _ _) _) _) _ _ _ | show wpAny _ _ (exec (Stmt.Assign _ (Expr.DictComp _ _ _ _ _) _) _) _ _ _ | show _ ≤ _)); (first | walk1 | (dsimp only; walk1)) <;> (try dsimp only)) | (leave1; try dsimp only) | fail "no step"))
    exact ret _ _ (by k_asm) (cb_drop N1 fun q hq => List.mem_cons_of_mem _ hq)
end
end
theorem offLB4 : True := by
  w_top off
  exact True.intro
section
open PySem PySem.W PySem.Spec PySem.Calls PyProof.Rows
section
variable {w : World} {p : Program} {loose : List PySem.Str} {mean : ExcName → Option Value} {mg mb : PySem.Str → Option Value}
theorem take_all {α β : Type} {l : List α} {out : List β} (h : out.length = l.length) : l.take out.toArray.size = l := by rw [List.size_toArray, h, List.take_length]
theorem inn_snoc {o : Nat → Nat} {s : Int} {i ii j : Nat} {kvs : List (PySem.Str × Value)} (hj : (nbr o i)[ii]? = some j) (hd : DInts kvs ((innL o s i).take ii)) (v : Int) (hv : v = if j = par i then 1 - s else 1) (t : Tok) : DInts (stored kvs (key j) (.int v t)) ((innL o s i).take (ii + 1)) := by
  have h : (innL o s i)[ii]? = some (key j, v) := by unfold innL; rw [List.getElem?_map, hj, hv]; rfl
  have e : (innL o s i).take (ii + 1) = (innL o s i).take ii ++ [(key j, v)] := by rw [List.take_add_one, h]; rfl
  have hn2 : (((innL o s i).take (ii + 1)).map (·.1)).Nodup := (innL_nd o s i).sublist ((List.take_sublist _ _).map _)
  rw [e] at hn2 ⊢
  refine hd.snoc _ _ _ fun hm => ?_
  rw [List.map_append, List.nodup_append] at hn2
  exact hn2.2.2 _ hm _ (by simp) rfl
set_option maxHeartbeats 4000000 in
theorem lbPut {stm : List Stmt} {scope : Scope} (hb : (stm, scope) = ((forBody 9 (topFn 24).1).drop 4, (topFn 24).2)) {i : Nat} (hi : i < 8)
    {dp un : Nat} {gd : Option (List Code)} {cn : PySem.Str} {cs : Scope} {L fa LL : Addr} {ccd : Value} {cl : List (PySem.Str × Addr)} {outer : List Env} {base gg : Heap} {m : PySem.Str → Option Value} {s : Shared} {E : Value → Shared → Prop} {Q : Flow → Shared → Prop}
    {o : Nat → Nat} {s1 : Int} {xr xd la W aA : Addr} {kW : Nat} {tl : Led} {ti tS t1 t3 : Tok} {o1 o3 oA : Obj} {out : List Value} {kA : List (PySem.Str × Value)}
    (BB : Below (ktrTop dp un gd cn cs L fa ccd cl outer) base (envX cn cs L fa ccd cl :: outer) gg) (XX : (Mine.hd.heap_1 w.params).In gg) (TT : Top p loose mean mg mb gg) (hC : Codes base) (hd : dp + 150 < recursionLimit) (hu : un + 8 * 150 < cLine)
    (F : Fr gg LL s.heap fun y => if y = "ways" then some (.ref W) else if y = "i" then some (.int (0 + (i : Int)) ti) else if y = "steps" then some (.str stepsT tS) else if y = "roads" then some (.ref xr) else if y = "doors" then some (.ref xd) else if y = "laid" then some (.ref la) else if y = "after" then some (.ref aA) else m y)
    (N : News gg LL s.heap ((W, lstC out kW) :: (LL + 1 + 1 + 1, o1) :: (LL + 1, o3) :: (aA, oA) :: tl)) (d1 : o1.data = .cell (some (.str (key (par i)) t1))) (d3 : o3.data = .cell (some (.int (1 - s1) t3)))
    (hA : oA.IsDictOf (PySem.strKind PySem.Challenge.rw_wy0040_01.row.toRowW.prog w) kA) (lA : kA.length ≤ 8) (offA : ∀ q ∈ (W, lstC out kW) :: (LL + 1 + 1 + 1, o1) :: (LL + 1, o3) :: tl, @Ne Nat q.1 aA) (hout : DatAll [] out ((nbr o i).map fun j => Dat.str (key j)))
    (ret : ∀ h' tk D oD kD oA', Fr gg LL h' (fun y => if y = "ways" then some (.ref W) else if y = "i" then some (.int (0 + (i : Int)) ti) else if y = "steps" then some (.str stepsT tS) else if y = "roads" then some (.ref xr) else if y = "doors" then some (.ref xd) else if y = "laid" then some (.ref la) else if y = "after" then some (.ref aA) else m y) → News gg LL h' ((D, oD) :: (W, lstC out kW) :: (LL + 1 + 1 + 1, o1) :: (LL + 1, o3) :: (aA, oA') :: tl) → (∀ q ∈ (W, lstC out kW) :: (LL + 1 + 1 + 1, o1) :: (LL + 1, o3) :: (aA, oA) :: tl, @Ne Nat q.1 D) → @LT.lt Nat _ LL D → oD.IsDictOf (PySem.strKind PySem.Challenge.rw_wy0040_01.row.toRowW.prog w) kD → DInts kD (innL o s1 i) → oA'.IsDictOf (PySem.strKind PySem.Challenge.rw_wy0040_01.row.toRowW.prog w) (stored kA (key i) (.ref D)) → Q .next { s with heap := h', toks := tk }) :
    wpAny (model PySem.Challenge.rw_wy0040_01.row.toRowW.prog w) ((ktrTop dp un gd cn cs L fa ccd cl outer).deeper (envOfC "_law_after" scope LL 266 (.ref 265))) (execs stm (envOfC "_law_after" scope LL 266 (.ref 265))) Q E s := by
  conv at hb => {rhs; arg 1; whnf}
  conv at hb => {rhs; arg 2; whnf}
  simp only [Prod.mk.injEq] at hb
  obtain ⟨rfl, rfl⟩ := hb
  revert XX
  k_fill
  intro XX
  (repeat' (first | (k_unfold; (try dsimp only)) | ((fail_if_success (with_reducible first | show wpAny _ _ (PySem.call (Value.ref _) _) _ _ _ | show wpAny _ _ (pyIter (Value.ref _)) _ _ _ | show wpAny _ _ (exec (Stmt.For _ _ _ _ _) _) _ _ _ | show wpAny _ _ (subscriptTail _ _ _ _) _ _ _ | show DEnd _ _ _ _ _ _ _ _ _ _ _ _ _ _ | show wpAny _ _ (setItem _ _ _) _ _ _ | show wpAny _ _ (getItem _ _) _ _ _ | show LCg.CompSrc _ _ _ _ _ _ _ _ _ _ _ _ _ _ | show LCg.CompEnd _ _ _ _ _ _ _ _ _ _ _ _ _ _ | show wpAny _ _ (eval (Expr.ListComp _ _ _ _) _) _ _ _ | show wpAny _ _ (eval (Expr.DictComp _ _ _ _ _) _) _ _ _ | show wpAny _ _ (exec (Stmt.Assign _ (Expr.ListComp _ _ _ _) _) _) _ _ _ | show wpAny _ _ (exec (Stmt.Assign _ (Expr.DictComp _ _ _ _ _) _) _) _ _ _ | show _ ≤ _)); (first | walk1 | (dsimp only; walk1)) <;> (try dsimp only)) | (leave1; try dsimp only) | fail "no step"))
  have hlen : out.length = (nbr o i).length := by rw [hout.length, List.length_map]
  have hl8 : (nbr o i).length ≤ 8 := by
    have := innL_len o s1 i
    unfold innL at this
    rwa [List.length_map] at this
  walk1
  refine' DictComp_N (PySem.strKind _ _) F ?f1 ?f2 ?f3 ?f4 ?f5 ?f6 (by intro _; rfl)
  case f1 => exact rfl
  case f2 => decide
  case f3 => exact rfl
  case f4 => decide
  case f5 => exact rfl
  (repeat' (first | (k_unfold; (try dsimp only)) | ((fail_if_success (with_reducible first | show wpAny _ _ (PySem.call (Value.ref _) _) _ _ _ | show wpAny _ _ (pyIter (Value.ref _)) _ _ _ | show wpAny _ _ (exec (Stmt.For _ _ _ _ _) _) _ _ _ | show wpAny _ _ (subscriptTail _ _ _ _) _ _ _ | show DEnd _ _ _ _ _ _ _ _ _ _ _ _ _ _ | show wpAny _ _ (setItem _ _ _) _ _ _ | show wpAny _ _ (getItem _ _) _ _ _ | show LCg.CompSrc _ _ _ _ _ _ _ _ _ _ _ _ _ _ | show LCg.CompEnd _ _ _ _ _ _ _ _ _ _ _ _ _ _ | show wpAny _ _ (eval (Expr.ListComp _ _ _ _) _) _ _ _ | show wpAny _ _ (eval (Expr.DictComp _ _ _ _ _) _) _ _ _ | show wpAny _ _ (exec (Stmt.Assign _ (Expr.ListComp _ _ _ _) _) _) _ _ _ | show wpAny _ _ (exec (Stmt.Assign _ (Expr.DictComp _ _ _ _ _) _) _) _ _ _ | show _ ≤ _)); (first | walk1 | (dsimp only; walk1)) <;> (try dsimp only)) | (leave1; try dsimp only) | fail "no step"))
  refine dsrc_list (its := out.toArray) (k := kW) (fun ii kvs news => DInts kvs ((innL o s1 i).take ii) ∧ news = (W, lstC out kW) :: (LL + 1 + 1 + 1, o1) :: (LL + 1, o3) :: (aA, oA) :: tl) (by rfl) F N (by (with_reducible repeat' first | exact List.mem_cons_self .. | refine List.mem_cons_of_mem _ ?_)) (by rw [List.size_toArray, hlen]; exact Nat.le_trans hl8 (by decide)) ⟨.nil, rfl⟩ ?turn ?fin
  case turn =>
    rintro ii kvs nw hii ⟨hk, rfl⟩
    unfold DTurn
    rintro v I1 oI C oC D oD m2 h1 tk1 E1 hv hCo hx hdD F1 N1 off1 ne1
    obtain ⟨j, tj, hj, rfl⟩ := dat_at hout (by simpa using hv)
    have hj8 : j < 8 := List.mem_range.mp (List.mem_filter.mp (List.mem_of_getElem? hj)).1
    have hp8 := par_lt i hi
    (repeat' (first | (k_unfold; (try dsimp only)) | ((fail_if_success (with_reducible first | show wpAny _ _ (PySem.call (Value.ref _) _) _ _ _ | show wpAny _ _ (pyIter (Value.ref _)) _ _ _ | show wpAny _ _ (exec (Stmt.For _ _ _ _ _) _) _ _ _ | show wpAny _ _ (subscriptTail _ _ _ _) _ _ _ | show DEnd _ _ _ _ _ _ _ _ _ _ _ _ _ _ | show wpAny _ _ (setItem _ _ _) _ _ _ | show wpAny _ _ (getItem _ _) _ _ _ | show LCg.CompSrc _ _ _ _ _ _ _ _ _ _ _ _ _ _ | show LCg.CompEnd _ _ _ _ _ _ _ _ _ _ _ _ _ _ | show wpAny _ _ (eval (Expr.ListComp _ _ _ _) _) _ _ _ | show wpAny _ _ (eval (Expr.DictComp _ _ _ _ _) _) _ _ _ | show wpAny _ _ (exec (Stmt.Assign _ (Expr.ListComp _ _ _ _) _) _) _ _ _ | show wpAny _ _ (exec (Stmt.Assign _ (Expr.DictComp _ _ _ _ _) _) _) _ _ _ | show _ ≤ _)); (first | walk1 | (dsimp only; walk1)) <;> (try dsimp only)) | (leave1; try dsimp only) | fail "no step"))
    all_goals (rename Fr _ _ _ _ => lF1); (rename News _ _ _ _ => lN1)
    all_goals refine dend lF1 lN1 (strKind_is _ _ _ _) ((W, lstC out kW) :: (LL + 1 + 1 + 1, o1) :: (LL + 1, o3) :: (aA, oA) :: tl) (fun _ h => h) off1 (.inr ⟨_, by (with_reducible repeat' first | exact List.mem_cons_self .. | refine List.mem_cons_of_mem _ ?_), rfl, _, rfl⟩) ⟨inn_snoc hj hk _ ?_ _, rfl⟩
    · rename (key j == key (par i)) = true => hq
      rw [if_pos (key_inj j hj8 _ hp8 (eq_of_beq hq))]
    · rename (key j == key (par i)) = false => hq
      rw [if_neg (fun e => by rw [e, beq_self_eq_true] at hq; cases hq)]
  case fin =>
    rintro D h1 tk1 kD oD nw F1 N1 hD off1 ltD ⟨hkD, rfl⟩
    (repeat' (first | (k_unfold; (try dsimp only)) | ((fail_if_success (with_reducible first | show wpAny _ _ (PySem.call (Value.ref _) _) _ _ _ | show wpAny _ _ (pyIter (Value.ref _)) _ _ _ | show wpAny _ _ (exec (Stmt.For _ _ _ _ _) _) _ _ _ | show wpAny _ _ (subscriptTail _ _ _ _) _ _ _ | show DEnd _ _ _ _ _ _ _ _ _ _ _ _ _ _ | show wpAny _ _ (setItem _ _ _) _ _ _ | show wpAny _ _ (getItem _ _) _ _ _ | show LCg.CompSrc _ _ _ _ _ _ _ _ _ _ _ _ _ _ | show LCg.CompEnd _ _ _ _ _ _ _ _ _ _ _ _ _ _ | show wpAny _ _ (eval (Expr.ListComp _ _ _ _) _) _ _ _ | show wpAny _ _ (eval (Expr.DictComp _ _ _ _ _) _) _ _ _ | show wpAny _ _ (exec (Stmt.Assign _ (Expr.ListComp _ _ _ _) _) _) _ _ _ | show wpAny _ _ (exec (Stmt.Assign _ (Expr.DictComp _ _ _ _ _) _) _) _ _ _ | show _ ≤ _)); (first | walk1 | (dsimp only; walk1)) <;> (try dsimp only)) | (leave1; try dsimp only) | fail "no step"))
    refine KXi.item (n := 8) (by rfl) (by (first | lia | omega)) (by (first | lia | omega)) (by decide) ?_
    intro _
    (repeat' (first | (k_unfold; (try dsimp only)) | ((fail_if_success (with_reducible first | show wpAny _ _ (PySem.call (Value.ref _) _) _ _ _ | show wpAny _ _ (pyIter (Value.ref _)) _ _ _ | show wpAny _ _ (exec (Stmt.For _ _ _ _ _) _) _ _ _ | show wpAny _ _ (subscriptTail _ _ _ _) _ _ _ | show DEnd _ _ _ _ _ _ _ _ _ _ _ _ _ _ | show wpAny _ _ (setItem _ _ _) _ _ _ | show wpAny _ _ (getItem _ _) _ _ _ | show LCg.CompSrc _ _ _ _ _ _ _ _ _ _ _ _ _ _ | show LCg.CompEnd _ _ _ _ _ _ _ _ _ _ _ _ _ _ | show wpAny _ _ (eval (Expr.ListComp _ _ _ _) _) _ _ _ | show wpAny _ _ (eval (Expr.DictComp _ _ _ _ _) _) _ _ _ | show wpAny _ _ (exec (Stmt.Assign _ (Expr.ListComp _ _ _ _) _) _) _ _ _ | show wpAny _ _ (exec (Stmt.Assign _ (Expr.DictComp _ _ _ _ _) _) _) _ _ _ | show _ ≤ _)); (first | walk1 | (dsimp only; walk1)) <;> (try dsimp only)) | (leave1; try dsimp only) | fail "no step"))
    have hke : PySem.Txt.item stepsT (0 + (i : Int)) = key i := by rw [Int.zero_add]; rfl
    have hoD := LCoff off1
    have hDA : @Ne Nat aA D := hoD (aA, oA) (by (with_reducible repeat' first | exact List.mem_cons_self .. | refine List.mem_cons_of_mem _ ?_))
    (rename Fr _ _ _ _ => lF1); (rename News _ _ _ _ => lN1)
    refine kda_set (k := key i) (knd := PySem.strKind _ _) lF1 (cb_drop (news := (aA, oA) :: (D, oD) :: (W, lstC out kW) :: (LL + 1 + 1 + 1, o1) :: (LL + 1, o3) :: tl) lN1 (subB [[(D, oD)], [(W, lstC out kW)], [(LL + 1 + 1 + 1, o1)], [(LL + 1, o3)], [(aA, oA)], tl] 5 [4, 0, 1, 2, 3] 5 [0, 1, 2, 3, 4] rfl : ∀ q ∈ (aA, oA) :: (D, oD) :: (W, lstC out kW) :: (LL + 1 + 1 + 1, o1) :: (LL + 1, o3) :: tl, q ∈ (D, oD) :: (W, lstC out kW) :: (LL + 1 + 1 + 1, o1) :: (LL + 1, o3) :: (aA, oA) :: tl)) (.head (List.forall_mem_cons.mpr ⟨hDA.symm, offA⟩)) hA (by rw [hke]; exact strKind_is _ _ _ _) (Nat.le_trans lA (by decide)) ?_
    intro h' oA' F' N' ho'
    (repeat' (first | (k_unfold; (try dsimp only)) | ((fail_if_success (with_reducible first | show wpAny _ _ (PySem.call (Value.ref _) _) _ _ _ | show wpAny _ _ (pyIter (Value.ref _)) _ _ _ | show wpAny _ _ (exec (Stmt.For _ _ _ _ _) _) _ _ _ | show wpAny _ _ (subscriptTail _ _ _ _) _ _ _ | show DEnd _ _ _ _ _ _ _ _ _ _ _ _ _ _ | show wpAny _ _ (setItem _ _ _) _ _ _ | show wpAny _ _ (getItem _ _) _ _ _ | show LCg.CompSrc _ _ _ _ _ _ _ _ _ _ _ _ _ _ | show LCg.CompEnd _ _ _ _ _ _ _ _ _ _ _ _ _ _ | show wpAny _ _ (eval (Expr.ListComp _ _ _ _) _) _ _ _ | show wpAny _ _ (eval (Expr.DictComp _ _ _ _ _) _) _ _ _ | show wpAny _ _ (exec (Stmt.Assign _ (Expr.ListComp _ _ _ _) _) _) _ _ _ | show wpAny _ _ (exec (Stmt.Assign _ (Expr.DictComp _ _ _ _ _) _) _) _ _ _ | show _ ≤ _)); (first | walk1 | (dsimp only; walk1)) <;> (try dsimp only)) | (leave1; try dsimp only) | fail "no step"))
    rw [take_all (hlen.trans (by unfold innL; rw [List.length_map]))] at hkD
    exact ret _ _ D oD kD oA' F' (cb_drop (news := (D, oD) :: (W, lstC out kW) :: (LL + 1 + 1 + 1, o1) :: (LL + 1, o3) :: (aA, oA') :: tl) N' (subB [[(aA, oA')], [(D, oD)], [(W, lstC out kW)], [(LL + 1 + 1 + 1, o1)], [(LL + 1, o3)], tl] 5 [1, 2, 3, 4, 0] 5 [0, 1, 2, 3, 4] rfl : ∀ q ∈ (D, oD) :: (W, lstC out kW) :: (LL + 1 + 1 + 1, o1) :: (LL + 1, o3) :: (aA, oA') :: tl, q ∈ (aA, oA') :: (D, oD) :: (W, lstC out kW) :: (LL + 1 + 1 + 1, o1) :: (LL + 1, o3) :: tl)) (fun q hq => hoD q hq) ltD hD hkD ho'
end
end
theorem offLB5 : True := by
  w_top off
  exact True.intro
section
open PySem PySem.W PySem.Spec PySem.Calls PyProof.Rows
section
variable {w : World} {p : Program} {loose : List PySem.Str} {mean : ExcName → Option Value} {mg mb : PySem.Str → Option Value}
theorem catB_flat {α : Type} (env : List (List α)) (la : Nat) : ∀ ix : List Nat, catB env la ix = ((ix ++ [la]).map (nthB env)).flatten
  | [] => by simp [catB]
  | i :: r => by rw [catB, catB_flat env la r]; rfl
theorem dstB {A : Led} (env : List Led) (la : Nat) (a : List Nat) (lb : Nat) (b : List Nat) (e : A = catB env la a) (h : ((b ++ [lb]).isPerm (a ++ [la])) = true) (hd : DistL (catB env lb b)) : DistL A := by
  subst e
  rw [catB_flat] at hd ⊢
  exact hd.perm (((List.isPerm_iff.mp h).map _).flatten)
set_option maxHeartbeats 4000000 in
theorem lbTurn {stm : List Stmt} {scope : Scope} (hb : (stm, scope) = (forBody 9 (topFn 24).1, (topFn 24).2)) {i : Nat} (hi : i < 8)
    {dp un : Nat} {gd : Option (List Code)} {cn : PySem.Str} {cs : Scope} {L fa LL : Addr} {ccd : Value} {cl : List (PySem.Str × Addr)} {outer : List Env} {base gg : Heap} {m : PySem.Str → Option Value} {s : Shared} {E : Value → Shared → Prop} {Q : Flow → Shared → Prop}
    {l : List (Int × Int)} {s1 : Int} {aA xd dd ld xr dr lr la : Addr} {td tr : Tok} {esD esR lsL : List HE} {cD cR cL : Nat} {tl : Led} {ti tS t3 : Tok} {o1 o2 o3 oA : Obj} {u1 u2 : Option Value} {kA : List (PySem.Str × Value)}
    (BB : Below (ktrTop dp un gd cn cs L fa ccd cl outer) base (envX cn cs L fa ccd cl :: outer) gg) (XX : (Mine.hd.heap_1 w.params).In gg) (TT : Top p loose mean mg mb gg) (hC : Codes base) (hd : dp + 150 < recursionLimit) (hu : un + 8 * 150 < cLine)
    (hpr : In3 l) (F : Fr gg LL s.heap fun y => if y = "i" then some (.int (0 + (i : Int)) ti) else if y = "steps" then some (.str stepsT tS) else if y = "roads" then some (.ref xr) else if y = "doors" then some (.ref xd) else if y = "laid" then some (.ref la) else if y = "after" then some (.ref aA) else m y)
    (N : News gg LL s.heap ((LL + 1 + 1 + 1, o1) :: (LL + 1 + 1, o2) :: (xr, instObj 252 dr) :: (dr, hDict w lr tr) :: (lr, lstC (List.map HE.ref esR) cR) :: (LL + 1, o3) :: (aA, oA) :: (xd, instObj 252 dd) :: (dd, hDict w ld td) :: (ld, lstC (List.map HE.ref esD) cD) :: (la, lstC (List.map HE.ref lsL) cL) :: tl)) (nd : DistL ((LL + 1 + 1 + 1, o1) :: (LL + 1 + 1, o2) :: (xr, instObj 252 dr) :: (dr, hDict w lr tr) :: (lr, lstC (List.map HE.ref esR) cR) :: (LL + 1, o3) :: (aA, oA) :: (xd, instObj 252 dd) :: (dd, hDict w ld td) :: (ld, lstC (List.map HE.ref esD) cD) :: (la, lstC (List.map HE.ref lsL) cL) :: tl)) (d1 : o1.data = .cell u1) (d2 : o2.data = .cell u2) (d3 : o3.data = .cell (some (.int (1 - s1) t3)))
    (hD : ∀ e ∈ esD, e.obj ∈ tl) (hR : ∀ e ∈ esR, e.obj ∈ tl) (hL : ∀ e ∈ lsL, e.obj ∈ tl)
    (tD : esD.map HE.tx = nmL l 8) (tR : esR.map HE.tx = rdL l 8) (tL : lsL.map HE.tx = nmL l 8)
    (hA : oA.IsDictOf (PySem.strKind PySem.Challenge.rw_wy0040_01.row.toRowW.prog w) kA) (lA : kA.length ≤ 8)
    (ret : ∀ h' tk m' o1' o2' oA' D oD kD u1' u2', m' "steps" = some (.str stepsT tS) → m' "roads" = some (.ref xr) → m' "doors" = some (.ref xd) → m' "laid" = some (.ref la) → m' "after" = some (.ref aA) → Fr gg LL h' m' → News gg LL h' ((D, oD) :: (LL + 1 + 1 + 1, o1') :: (LL + 1 + 1, o2') :: (xr, instObj 252 dr) :: (dr, hDict w lr tr) :: (lr, lstC (List.map HE.ref esR) cR) :: (LL + 1, o3) :: (aA, oA') :: (xd, instObj 252 dd) :: (dd, hDict w ld td) :: (ld, lstC (List.map HE.ref esD) cD) :: (la, lstC (List.map HE.ref lsL) cL) :: tl) → DistL ((D, oD) :: (LL + 1 + 1 + 1, o1') :: (LL + 1 + 1, o2') :: (xr, instObj 252 dr) :: (dr, hDict w lr tr) :: (lr, lstC (List.map HE.ref esR) cR) :: (LL + 1, o3) :: (aA, oA') :: (xd, instObj 252 dd) :: (dd, hDict w ld td) :: (ld, lstC (List.map HE.ref esD) cD) :: (la, lstC (List.map HE.ref lsL) cL) :: tl) → o1'.data = .cell u1' → o2'.data = .cell u2' → @LT.lt Nat _ LL D →
      oD.IsDictOf (PySem.strKind PySem.Challenge.rw_wy0040_01.row.toRowW.prog w) kD → DInts kD (innL (town l) s1 i) → oA'.IsDictOf (PySem.strKind PySem.Challenge.rw_wy0040_01.row.toRowW.prog w) (stored kA (key i) (.ref D)) → Q .next { s with heap := h', toks := tk }) :
    wpAny (model PySem.Challenge.rw_wy0040_01.row.toRowW.prog w) ((ktrTop dp un gd cn cs L fa ccd cl outer).deeper (envOfC "_law_after" scope LL 266 (.ref 265))) (execs stm (envOfC "_law_after" scope LL 266 (.ref 265))) Q E s := by
  obtain ⟨rfl, rfl⟩ := Prod.mk.inj hb
  have mtl : ∀ q ∈ tl, q ∈ (LL + 1, o3) :: (aA, oA) :: (xd, instObj 252 dd) :: (dd, hDict w ld td) :: (ld, lstC (List.map HE.ref esD) cD) :: (la, lstC (List.map HE.ref lsL) cL) :: tl := fun q hq => List.mem_append_right [(LL + 1, o3), (aA, oA), (xd, instObj 252 dd), (dd, hDict w ld td), (ld, lstC (List.map HE.ref esD) cD), (la, lstC (List.map HE.ref lsL) cL)] hq
  refine lbHead (stm := (forBody 9 (topFn 24).1).take 2) (rest := (forBody 9 (topFn 24).1).drop 2) (tl := (LL + 1, o3) :: (aA, oA) :: (xd, instObj 252 dd) :: (dd, hDict w ld td) :: (ld, lstC (List.map HE.ref esD) cD) :: (la, lstC (List.map HE.ref lsL) cL) :: tl) rfl hi BB XX TT hC hd hu hpr F N nd d1 d2 (fun e he => mtl _ (hR e he)) tR ?_
  intro h1 tk1 o1' o2' t1 t2 F1 N1 d1' d2'
  have nd1 : DistL ((LL + 1 + 1 + 1, o1') :: (LL + 1 + 1, o2') :: (xr, instObj 252 dr) :: (dr, hDict w lr tr) :: (lr, lstC (List.map HE.ref esR) cR) :: (LL + 1, o3) :: (aA, oA) :: (xd, instObj 252 dd) :: (dd, hDict w ld td) :: (ld, lstC (List.map HE.ref esD) cD) :: (la, lstC (List.map HE.ref lsL) cL) :: tl) := nd
  refine lbWays (stm := ((forBody 9 (topFn 24).1).drop 2).take 1) (rest := (forBody 9 (topFn 24).1).drop 3) (tl := (xr, instObj 252 dr) :: (dr, hDict w lr tr) :: (lr, lstC (List.map HE.ref esR) cR) :: (aA, oA) :: tl) rfl hi BB XX TT hC hd hu hpr F1 (cb_drop (news := (LL + 1 + 1 + 1, o1') :: (LL + 1 + 1, o2') :: (LL + 1, o3) :: (xd, instObj 252 dd) :: (dd, hDict w ld td) :: (ld, lstC (List.map HE.ref esD) cD) :: (la, lstC (List.map HE.ref lsL) cL) :: (xr, instObj 252 dr) :: (dr, hDict w lr tr) :: (lr, lstC (List.map HE.ref esR) cR) :: (aA, oA) :: tl) N1 (subB [[(LL + 1 + 1 + 1, o1')], [(LL + 1 + 1, o2')], [(xr, instObj 252 dr)], [(dr, hDict w lr tr)], [(lr, lstC (List.map HE.ref esR) cR)], [(LL + 1, o3)], [(aA, oA)], [(xd, instObj 252 dd)], [(dd, hDict w ld td)], [(ld, lstC (List.map HE.ref esD) cD)], [(la, lstC (List.map HE.ref lsL) cL)], tl] 11 [0, 1, 5, 7, 8, 9, 10, 2, 3, 4, 6] 11 [0, 1, 2, 3, 4, 5, 6, 7, 8, 9, 10] rfl : ∀ q ∈ (LL + 1 + 1 + 1, o1') :: (LL + 1 + 1, o2') :: (LL + 1, o3) :: (xd, instObj 252 dd) :: (dd, hDict w ld td) :: (ld, lstC (List.map HE.ref esD) cD) :: (la, lstC (List.map HE.ref lsL) cL) :: (xr, instObj 252 dr) :: (dr, hDict w lr tr) :: (lr, lstC (List.map HE.ref esR) cR) :: (aA, oA) :: tl, q ∈ (LL + 1 + 1 + 1, o1') :: (LL + 1 + 1, o2') :: (xr, instObj 252 dr) :: (dr, hDict w lr tr) :: (lr, lstC (List.map HE.ref esR) cR) :: (LL + 1, o3) :: (aA, oA) :: (xd, instObj 252 dd) :: (dd, hDict w ld td) :: (ld, lstC (List.map HE.ref esD) cD) :: (la, lstC (List.map HE.ref lsL) cL) :: tl)) (dstB (A := (LL + 1 + 1 + 1, o1') :: (LL + 1 + 1, o2') :: (LL + 1, o3) :: (xd, instObj 252 dd) :: (dd, hDict w ld td) :: (ld, lstC (List.map HE.ref esD) cD) :: (la, lstC (List.map HE.ref lsL) cL) :: (xr, instObj 252 dr) :: (dr, hDict w lr tr) :: (lr, lstC (List.map HE.ref esR) cR) :: (aA, oA) :: tl) [[(LL + 1 + 1 + 1, o1')], [(LL + 1 + 1, o2')], [(xr, instObj 252 dr)], [(dr, hDict w lr tr)], [(lr, lstC (List.map HE.ref esR) cR)], [(LL + 1, o3)], [(aA, oA)], [(xd, instObj 252 dd)], [(dd, hDict w ld td)], [(ld, lstC (List.map HE.ref esD) cD)], [(la, lstC (List.map HE.ref lsL) cL)], tl] 11 [0, 1, 5, 7, 8, 9, 10, 2, 3, 4, 6] 11 [0, 1, 2, 3, 4, 5, 6, 7, 8, 9, 10] rfl rfl nd1) d2' (fun e he => List.mem_append_right [(xr, instObj 252 dr), (dr, hDict w lr tr), (lr, lstC (List.map HE.ref esR) cR), (aA, oA)] (hD e he)) tD ?_
  intro h2 tk2 W kW F2 N2 hW
  have hout := all_dat hpr tD i
  refine lbTest (stm := ((forBody 9 (topFn 24).1).drop 3).take 1) (rest := (forBody 9 (topFn 24).1).drop 4) (tl := (xr, instObj 252 dr) :: (dr, hDict w lr tr) :: (lr, lstC (List.map HE.ref esR) cR) :: (aA, oA) :: (xd, instObj 252 dd) :: (dd, hDict w ld td) :: (ld, lstC (List.map HE.ref esD) cD) :: tl) rfl hi BB XX TT hC hd hu hpr F2 (cb_drop (news := (W, lstC (allOf (ttT (town l (par i))) esD) kW) :: (LL + 1 + 1 + 1, o1') :: (LL + 1 + 1, o2') :: (LL + 1, o3) :: (la, lstC (List.map HE.ref lsL) cL) :: (xr, instObj 252 dr) :: (dr, hDict w lr tr) :: (lr, lstC (List.map HE.ref esR) cR) :: (aA, oA) :: (xd, instObj 252 dd) :: (dd, hDict w ld td) :: (ld, lstC (List.map HE.ref esD) cD) :: tl) N2 (subB [[(W, lstC (allOf (ttT (town l (par i))) esD) kW)], [(LL + 1 + 1 + 1, o1')], [(LL + 1 + 1, o2')], [(LL + 1, o3)], [(xd, instObj 252 dd)], [(dd, hDict w ld td)], [(ld, lstC (List.map HE.ref esD) cD)], [(la, lstC (List.map HE.ref lsL) cL)], [(xr, instObj 252 dr)], [(dr, hDict w lr tr)], [(lr, lstC (List.map HE.ref esR) cR)], [(aA, oA)], tl] 12 [0, 1, 2, 3, 7, 8, 9, 10, 11, 4, 5, 6] 12 [0, 1, 2, 3, 4, 5, 6, 7, 8, 9, 10, 11] rfl : ∀ q ∈ (W, lstC (allOf (ttT (town l (par i))) esD) kW) :: (LL + 1 + 1 + 1, o1') :: (LL + 1 + 1, o2') :: (LL + 1, o3) :: (la, lstC (List.map HE.ref lsL) cL) :: (xr, instObj 252 dr) :: (dr, hDict w lr tr) :: (lr, lstC (List.map HE.ref esR) cR) :: (aA, oA) :: (xd, instObj 252 dd) :: (dd, hDict w ld td) :: (ld, lstC (List.map HE.ref esD) cD) :: tl, q ∈ (W, lstC (allOf (ttT (town l (par i))) esD) kW) :: (LL + 1 + 1 + 1, o1') :: (LL + 1 + 1, o2') :: (LL + 1, o3) :: (xd, instObj 252 dd) :: (dd, hDict w ld td) :: (ld, lstC (List.map HE.ref esD) cD) :: (la, lstC (List.map HE.ref lsL) cL) :: (xr, instObj 252 dr) :: (dr, hDict w lr tr) :: (lr, lstC (List.map HE.ref esR) cR) :: (aA, oA) :: tl)) d2' (fun e he => List.mem_append_right [(xr, instObj 252 dr), (dr, hDict w lr tr), (lr, lstC (List.map HE.ref esR) cR), (aA, oA), (xd, instObj 252 dd), (dd, hDict w ld td), (ld, lstC (List.map HE.ref esD) cD)] (hL e he)) tL hout ?_
  intro h3 tk3 F3 N3
  have offA := DistL.mid (p := (aA, oA)) (a := [(LL + 1 + 1 + 1, o1'), (LL + 1 + 1, o2'), (xr, instObj 252 dr), (dr, hDict w lr tr), (lr, lstC (List.map HE.ref esR) cR), (LL + 1, o3)]) nd1
  refine lbPut (o := town l) (s1 := s1) (tl := (LL + 1 + 1, o2') :: (xr, instObj 252 dr) :: (dr, hDict w lr tr) :: (lr, lstC (List.map HE.ref esR) cR) :: (xd, instObj 252 dd) :: (dd, hDict w ld td) :: (ld, lstC (List.map HE.ref esD) cD) :: (la, lstC (List.map HE.ref lsL) cL) :: tl) rfl hi BB XX TT hC hd hu F3 (cb_drop (news := (W, lstC (allOf (ttT (town l (par i))) esD) kW) :: (LL + 1 + 1 + 1, o1') :: (LL + 1, o3) :: (aA, oA) :: (LL + 1 + 1, o2') :: (xr, instObj 252 dr) :: (dr, hDict w lr tr) :: (lr, lstC (List.map HE.ref esR) cR) :: (xd, instObj 252 dd) :: (dd, hDict w ld td) :: (ld, lstC (List.map HE.ref esD) cD) :: (la, lstC (List.map HE.ref lsL) cL) :: tl) N3 (subB [[(W, lstC (allOf (ttT (town l (par i))) esD) kW)], [(LL + 1 + 1 + 1, o1')], [(LL + 1 + 1, o2')], [(LL + 1, o3)], [(la, lstC (List.map HE.ref lsL) cL)], [(xr, instObj 252 dr)], [(dr, hDict w lr tr)], [(lr, lstC (List.map HE.ref esR) cR)], [(aA, oA)], [(xd, instObj 252 dd)], [(dd, hDict w ld td)], [(ld, lstC (List.map HE.ref esD) cD)], tl] 12 [0, 1, 3, 8, 2, 5, 6, 7, 9, 10, 11, 4] 12 [0, 1, 2, 3, 4, 5, 6, 7, 8, 9, 10, 11] rfl : ∀ q ∈ (W, lstC (allOf (ttT (town l (par i))) esD) kW) :: (LL + 1 + 1 + 1, o1') :: (LL + 1, o3) :: (aA, oA) :: (LL + 1 + 1, o2') :: (xr, instObj 252 dr) :: (dr, hDict w lr tr) :: (lr, lstC (List.map HE.ref esR) cR) :: (xd, instObj 252 dd) :: (dd, hDict w ld td) :: (ld, lstC (List.map HE.ref esD) cD) :: (la, lstC (List.map HE.ref lsL) cL) :: tl, q ∈ (W, lstC (allOf (ttT (town l (par i))) esD) kW) :: (LL + 1 + 1 + 1, o1') :: (LL + 1 + 1, o2') :: (LL + 1, o3) :: (la, lstC (List.map HE.ref lsL) cL) :: (xr, instObj 252 dr) :: (dr, hDict w lr tr) :: (lr, lstC (List.map HE.ref esR) cR) :: (aA, oA) :: (xd, instObj 252 dd) :: (dd, hDict w ld td) :: (ld, lstC (List.map HE.ref esD) cD) :: tl)) d1' d3 hA lA ?_ hout ?_
  · refine List.forall_mem_cons.mpr ⟨(hW (aA, oA) ((subB [[(LL + 1 + 1 + 1, o1')], [(LL + 1 + 1, o2')], [(LL + 1, o3)], [(xd, instObj 252 dd)], [(dd, hDict w ld td)], [(ld, lstC (List.map HE.ref esD) cD)], [(la, lstC (List.map HE.ref lsL) cL)], [(xr, instObj 252 dr)], [(dr, hDict w lr tr)], [(lr, lstC (List.map HE.ref esR) cR)], [(aA, oA)], tl] 11 [10] 11 [0, 1, 2, 3, 4, 5, 6, 7, 8, 9, 10] rfl : ∀ q ∈ (aA, oA) :: tl, q ∈ (LL + 1 + 1 + 1, o1') :: (LL + 1 + 1, o2') :: (LL + 1, o3) :: (xd, instObj 252 dd) :: (dd, hDict w ld td) :: (ld, lstC (List.map HE.ref esD) cD) :: (la, lstC (List.map HE.ref lsL) cL) :: (xr, instObj 252 dr) :: (dr, hDict w lr tr) :: (lr, lstC (List.map HE.ref esR) cR) :: (aA, oA) :: tl) _ (List.mem_cons_self ..))).symm, fun q hq => offA q ?_⟩
    exact (subB [[(LL + 1 + 1 + 1, o1')], [(LL + 1 + 1, o2')], [(xr, instObj 252 dr)], [(dr, hDict w lr tr)], [(lr, lstC (List.map HE.ref esR) cR)], [(LL + 1, o3)], [(xd, instObj 252 dd)], [(dd, hDict w ld td)], [(ld, lstC (List.map HE.ref esD) cD)], [(la, lstC (List.map HE.ref lsL) cL)], tl] 10 [0, 5, 1, 2, 3, 4, 6, 7, 8, 9] 10 [0, 1, 2, 3, 4, 5, 6, 7, 8, 9] rfl : ∀ q ∈ (LL + 1 + 1 + 1, o1') :: (LL + 1, o3) :: (LL + 1 + 1, o2') :: (xr, instObj 252 dr) :: (dr, hDict w lr tr) :: (lr, lstC (List.map HE.ref esR) cR) :: (xd, instObj 252 dd) :: (dd, hDict w ld td) :: (ld, lstC (List.map HE.ref esD) cD) :: (la, lstC (List.map HE.ref lsL) cL) :: tl, q ∈ (LL + 1 + 1 + 1, o1') :: (LL + 1 + 1, o2') :: (xr, instObj 252 dr) :: (dr, hDict w lr tr) :: (lr, lstC (List.map HE.ref esR) cR) :: (LL + 1, o3) :: (xd, instObj 252 dd) :: (dd, hDict w ld td) :: (ld, lstC (List.map HE.ref esD) cD) :: (la, lstC (List.map HE.ref lsL) cL) :: tl) q hq
  · intro h4 tk4 D oD kD oA' F4 N4 hD4 lD hDd hkD hA'
    refine ret _ _ _ o1' o2' oA' D oD kD _ _ rfl rfl rfl rfl rfl F4 (cb_drop (news := (D, oD) :: (LL + 1 + 1 + 1, o1') :: (LL + 1 + 1, o2') :: (xr, instObj 252 dr) :: (dr, hDict w lr tr) :: (lr, lstC (List.map HE.ref esR) cR) :: (LL + 1, o3) :: (aA, oA') :: (xd, instObj 252 dd) :: (dd, hDict w ld td) :: (ld, lstC (List.map HE.ref esD) cD) :: (la, lstC (List.map HE.ref lsL) cL) :: tl) N4 (subB [[(D, oD)], [(W, lstC (allOf (ttT (town l (par i))) esD) kW)], [(LL + 1 + 1 + 1, o1')], [(LL + 1, o3)], [(aA, oA')], [(LL + 1 + 1, o2')], [(xr, instObj 252 dr)], [(dr, hDict w lr tr)], [(lr, lstC (List.map HE.ref esR) cR)], [(xd, instObj 252 dd)], [(dd, hDict w ld td)], [(ld, lstC (List.map HE.ref esD) cD)], [(la, lstC (List.map HE.ref lsL) cL)], tl] 13 [0, 2, 5, 6, 7, 8, 3, 4, 9, 10, 11, 12] 13 [0, 1, 2, 3, 4, 5, 6, 7, 8, 9, 10, 11, 12] rfl : ∀ q ∈ (D, oD) :: (LL + 1 + 1 + 1, o1') :: (LL + 1 + 1, o2') :: (xr, instObj 252 dr) :: (dr, hDict w lr tr) :: (lr, lstC (List.map HE.ref esR) cR) :: (LL + 1, o3) :: (aA, oA') :: (xd, instObj 252 dd) :: (dd, hDict w ld td) :: (ld, lstC (List.map HE.ref esD) cD) :: (la, lstC (List.map HE.ref lsL) cL) :: tl, q ∈ (D, oD) :: (W, lstC (allOf (ttT (town l (par i))) esD) kW) :: (LL + 1 + 1 + 1, o1') :: (LL + 1, o3) :: (aA, oA') :: (LL + 1 + 1, o2') :: (xr, instObj 252 dr) :: (dr, hDict w lr tr) :: (lr, lstC (List.map HE.ref esR) cR) :: (xd, instObj 252 dd) :: (dd, hDict w ld td) :: (ld, lstC (List.map HE.ref esD) cD) :: (la, lstC (List.map HE.ref lsL) cL) :: tl)) ?_ d1' d2' lD hDd hkD hA'
    refine List.nodup_cons.mpr ⟨fun hm => ?_, nd1⟩
    have hm' : D ∈ ((LL + 1 + 1 + 1, o1') :: (LL + 1 + 1, o2') :: (xr, instObj 252 dr) :: (dr, hDict w lr tr) :: (lr, lstC (List.map HE.ref esR) cR) :: (LL + 1, o3) :: (aA, oA) :: (xd, instObj 252 dd) :: (dd, hDict w ld td) :: (ld, lstC (List.map HE.ref esD) cD) :: (la, lstC (List.map HE.ref lsL) cL) :: tl).map (·.1) := hm
    obtain ⟨q, hq, e⟩ := List.mem_map.mp hm'
    exact hD4 q (List.mem_cons_of_mem _ ((subB [[(LL + 1 + 1 + 1, o1')], [(LL + 1, o3)], [(aA, oA)], [(LL + 1 + 1, o2')], [(xr, instObj 252 dr)], [(dr, hDict w lr tr)], [(lr, lstC (List.map HE.ref esR) cR)], [(xd, instObj 252 dd)], [(dd, hDict w ld td)], [(ld, lstC (List.map HE.ref esD) cD)], [(la, lstC (List.map HE.ref lsL) cL)], tl] 11 [0, 3, 4, 5, 6, 1, 2, 7, 8, 9, 10] 11 [0, 1, 2, 3, 4, 5, 6, 7, 8, 9, 10] rfl : ∀ q ∈ (LL + 1 + 1 + 1, o1') :: (LL + 1 + 1, o2') :: (xr, instObj 252 dr) :: (dr, hDict w lr tr) :: (lr, lstC (List.map HE.ref esR) cR) :: (LL + 1, o3) :: (aA, oA) :: (xd, instObj 252 dd) :: (dd, hDict w ld td) :: (ld, lstC (List.map HE.ref esD) cD) :: (la, lstC (List.map HE.ref lsL) cL) :: tl, q ∈ (LL + 1 + 1 + 1, o1') :: (LL + 1, o3) :: (aA, oA) :: (LL + 1 + 1, o2') :: (xr, instObj 252 dr) :: (dr, hDict w lr tr) :: (lr, lstC (List.map HE.ref esR) cR) :: (xd, instObj 252 dd) :: (dd, hDict w ld td) :: (ld, lstC (List.map HE.ref esD) cD) :: (la, lstC (List.map HE.ref lsL) cL) :: tl) q hq)) e
end
end
theorem offLA5 : True := by
  w_top off
  exact True.intro
section
open PySem PySem.W PySem.Spec PySem.Calls PyProof.Rows
section
variable {w : World} {p : Program} {loose : List PySem.Str} {mean : ExcName → Option Value} {mg mb : PySem.Str → Option Value}
theorem tup_dat {n : Led} : ∀ {es : List HE}, (∀ e ∈ es, e.obj ∈ n) → DatAll n (es.map HE.ref) ((es.map HE.tx).map fun q => Dat.tuple [Dat.str q.1, Dat.str q.2])
  | [], _ => .nil
  | e :: r, h => .cons (.tuple (vs := [.str e.nm e.tn, .str e.vl e.tv]) (h e (List.mem_cons_self ..)) (.cons (.str _ _) (.cons (.str _ _) .nil))) (tup_dat fun x hx => h x (List.mem_cons_of_mem _ hx))
theorem ok_nm {l : List (Int × Int)} (h : In3 l) : ∀ d ∈ (nmL l 8).map (fun q => Dat.tuple [Dat.str q.1, Dat.str q.2]), kqdOk 8 d = true := fun d hd => by
  obtain ⟨q, hq, rfl⟩ := List.mem_map.mp hd
  obtain ⟨j, hj, rfl⟩ := List.mem_map.mp hq
  have t := txOk h (List.mem_range.mp hj)
  show ([Dat.str _, Dat.str _]).all (kqdOk 7) = true
  rw [List.all_cons, List.all_cons, List.all_nil, Bool.and_true, Bool.and_eq_true]
  exact ⟨t.on, t.ok⟩
theorem ok_rd {l : List (Int × Int)} (h : In3 l) : ∀ d ∈ (rdL l 8).map (fun q => Dat.tuple [Dat.str q.1, Dat.str q.2]), kqdOk 8 d = true := fun d hd => by
  obtain ⟨q, hq, rfl⟩ := List.mem_map.mp hd
  obtain ⟨j, hj, rfl⟩ := List.mem_map.mp hq
  have t := txOk h (List.mem_range.mp hj)
  show ([Dat.str _, Dat.str _]).all (kqdOk 7) = true
  rw [List.all_cons, List.all_cons, List.all_nil, Bool.and_true, Bool.and_eq_true]
  exact ⟨t.or, t.ot⟩
theorem hitems_use {x d l' : Addr} {t : Tok} {cp : Nat} {vs : List Value} {led : Led} {dp un : Nat} {gd : Option (List Code)} {cn : PySem.Str} {cs : Scope} {a : Addr} {ccd : Value} {cl : List (PySem.Str × Addr)} {outer : List Env} {A₀ : Around} {base h₀ : Heap} {L : Addr} {m : PySem.Str → Option Value} {s : Shared}
    {Q E : Value → Shared → Prop} (B : Below A₀ base outer h₀) (F : Fr h₀ L s.heap m) (X : (hd.heap_1 w.params).In h₀) (N : News h₀ L s.heap led) (T : Top p loose mean mg mb h₀) (hk : cs.kind = .function) (hC : Codes base)
    (sub : ∀ q ∈ [(x, instObj 252 d), (d, hDict w l' t), (l', lstC vs cp)], q ∈ led) (d1 : @Ne Nat x d) (d2 : @Ne Nat x l') (d3 : @Ne Nat d l') (hvs : vs.length ≤ 1000) (hd : dp + 20 < recursionLimit) (hu : un + 8 * 20 < cLine)
    (ret : ∀ l2 h' tk', (∀ q ∈ led, @LT.lt Nat _ q.1 l2) → Fr h₀ L h' m → News h₀ L h' ((l2, lstO vs) :: led) → Q (.ref l2) { s with heap := h', toks := tk' }) :
    wpAny (model PySem.Challenge.rw_wy0040_01.row.toRowW.prog w) (ktrTop dp un gd cn cs L a ccd cl outer) (call (.ref 216) [.ref x]) Q E s := by
  refine Ok.use3 B F X N T hk hC (hitems d1 d2 d3 hvs) sub hd hu ?_
  intro b r news' h' tk' U F' N' K hp
  obtain ⟨l2, lt2, rfl, rfl⟩ := hp
  exact ret l2 h' tk' (fun q hq => Nat.lt_trans (U q hq) lt2) F' (news_ro (ex := [(l2, lstO vs)]) N sub N' K)
set_option maxHeartbeats 4000000 in
theorem laCheck {stm rest : List Stmt} {scope : Scope} (hb : (stm, scope) = (((topFn 24).1.drop 6).take 2, (topFn 24).2))
    {dp un : Nat} {gd : Option (List Code)} {cn : PySem.Str} {cs : Scope} {L fa LL : Addr} {ccd : Value} {cl : List (PySem.Str × Addr)} {outer : List Env} {base gg : Heap} {m : PySem.Str → Option Value} {s : Shared} {E : Value → Shared → Prop} {Q : Flow → Shared → Prop}
    {l : List (Int × Int)} {P xd dd ld xr dr lr la le : Addr} {td tr : Tok} {esD esR lsL lsE : List HE} {cD cR cL cE : Nat} {tl : Led} {tS : Tok}
    (BB : Below (ktrTop dp un gd cn cs L fa ccd cl outer) base (envX cn cs L fa ccd cl :: outer) gg) (XX : (Mine.hd.heap_1 w.params).In gg) (TT : Top p loose mean mg mb gg) (hC : Codes base) (hd : dp + 150 < recursionLimit) (hu : un + 8 * 150 < cLine)
    (hpr : In3 l) (F : Fr gg LL s.heap fun y => if y = "steps" then some (.str stepsT tS) else if y = "pairs" then some (.ref P) else if y = "doors" then some (.ref xd) else if y = "roads" then some (.ref xr) else if y = "laid" then some (.ref la) else if y = "ends" then some (.ref le) else m y)
    (N : News gg LL s.heap ((ld, lstC (List.map HE.ref esD) cD) :: (xd, instObj 252 dd) :: (dd, hDict w ld td) :: (lr, lstC (List.map HE.ref esR) cR) :: (xr, instObj 252 dr) :: (dr, hDict w lr tr) :: (la, lstC (List.map HE.ref lsL) cL) :: (le, lstC (List.map HE.ref lsE) cE) :: tl)) (nd : DistL ((ld, lstC (List.map HE.ref esD) cD) :: (xd, instObj 252 dd) :: (dd, hDict w ld td) :: (lr, lstC (List.map HE.ref esR) cR) :: (xr, instObj 252 dr) :: (dr, hDict w lr tr) :: (la, lstC (List.map HE.ref lsL) cL) :: (le, lstC (List.map HE.ref lsE) cE) :: tl))
    (hD : ∀ e ∈ esD, e.obj ∈ tl) (hR : ∀ e ∈ esR, e.obj ∈ tl) (hL : ∀ e ∈ lsL, e.obj ∈ tl) (hE : ∀ e ∈ lsE, e.obj ∈ tl)
    (tD : esD.map HE.tx = nmL l 8) (tR : esR.map HE.tx = rdL l 8) (tL : lsL.map HE.tx = nmL l 8) (tE : lsE.map HE.tx = rdL l 8)
    (ret : ∀ h' tk, Fr gg LL h' (fun y => if y = "steps" then some (.str stepsT tS) else if y = "pairs" then some (.ref P) else if y = "doors" then some (.ref xd) else if y = "roads" then some (.ref xr) else if y = "laid" then some (.ref la) else if y = "ends" then some (.ref le) else m y) → News gg LL h' ((ld, lstC (List.map HE.ref esD) cD) :: (xd, instObj 252 dd) :: (dd, hDict w ld td) :: (lr, lstC (List.map HE.ref esR) cR) :: (xr, instObj 252 dr) :: (dr, hDict w lr tr) :: (la, lstC (List.map HE.ref lsL) cL) :: (le, lstC (List.map HE.ref lsE) cE) :: tl) →
      wpAny (model PySem.Challenge.rw_wy0040_01.row.toRowW.prog w) ((ktrTop dp un gd cn cs L fa ccd cl outer).deeper (envOfC "_law_after" scope LL 266 (.ref 265))) (execs rest (envOfC "_law_after" scope LL 266 (.ref 265))) Q E { s with heap := h', toks := tk }) :
    wpAny (model PySem.Challenge.rw_wy0040_01.row.toRowW.prog w) ((ktrTop dp un gd cn cs L fa ccd cl outer).deeper (envOfC "_law_after" scope LL 266 (.ref 265))) (execs (stm ++ rest) (envOfC "_law_after" scope LL 266 (.ref 265))) Q E s := by
  have l8 : ∀ {es : List HE} {t : List (PySem.Str × PySem.Str)}, es.map HE.tx = t → t.length = 8 → (es.map HE.ref).length ≤ 1000 := fun h1 h2 => by
    have := congrArg List.length h1
    rw [List.length_map] at this
    rw [List.length_map]
    (first | lia | omega)
  have ln : (nmL l 8).length = 8 := by simp [nmL]
  have lrr : (rdL l 8).length = 8 := by simp [rdL]
  conv at hb => {rhs; arg 1; whnf}
  conv at hb => {rhs; arg 2; whnf}
  simp only [Prod.mk.injEq] at hb
  obtain ⟨rfl, rfl⟩ := hb
  revert XX
  k_fill
  intro XX
  simp only [List.take_succ_cons, List.take_zero, List.cons_append, List.nil_append]
  try dsimp only
  (repeat' (first | (k_unfold; (try dsimp only)) | ((fail_if_success (with_reducible first | show wpAny _ _ (PySem.call (Value.ref _) _) _ _ _ | show wpAny _ _ (pyIter (Value.ref _)) _ _ _ | show wpAny _ _ (exec (Stmt.For _ _ _ _ _) _) _ _ _ | show wpAny _ _ (subscriptTail _ _ _ _) _ _ _ | show DEnd _ _ _ _ _ _ _ _ _ _ _ _ _ _ | show wpAny _ _ (setItem _ _ _) _ _ _ | show wpAny _ _ (getItem _ _) _ _ _ | show LCg.CompSrc _ _ _ _ _ _ _ _ _ _ _ _ _ _ | show LCg.CompEnd _ _ _ _ _ _ _ _ _ _ _ _ _ _ | show wpAny _ _ (eval (Expr.ListComp _ _ _ _) _) _ _ _ | show wpAny _ _ (eval (Expr.DictComp _ _ _ _ _) _) _ _ _ | show wpAny _ _ (exec (Stmt.Assign _ (Expr.ListComp _ _ _ _) _) _) _ _ _ | show wpAny _ _ (exec (Stmt.Assign _ (Expr.DictComp _ _ _ _ _) _) _) _ _ _ | show _ ≤ _)); (first | walk1 | (dsimp only; walk1)) <;> (try dsimp only)) | (leave1; try dsimp only) | fail "no step"))
  have x1 : @Ne Nat xd dd := (nd.tl.hd (dd, hDict w ld td) (by (with_reducible repeat' first | exact List.mem_cons_self .. | refine List.mem_cons_of_mem _ ?_))).symm
  have x2 : @Ne Nat xd ld := nd.hd (xd, instObj 252 dd) (by (with_reducible repeat' first | exact List.mem_cons_self .. | refine List.mem_cons_of_mem _ ?_))
  have x3 : @Ne Nat dd ld := nd.hd (dd, hDict w ld td) (by (with_reducible repeat' first | exact List.mem_cons_self .. | refine List.mem_cons_of_mem _ ?_))
  have y1 : @Ne Nat xr dr := (nd.tl.tl.tl.tl.hd (dr, hDict w lr tr) (by (with_reducible repeat' first | exact List.mem_cons_self .. | refine List.mem_cons_of_mem _ ?_))).symm
  have y2 : @Ne Nat xr lr := nd.tl.tl.tl.hd (xr, instObj 252 dr) (by (with_reducible repeat' first | exact List.mem_cons_self .. | refine List.mem_cons_of_mem _ ?_))
  have y3 : @Ne Nat dr lr := nd.tl.tl.tl.hd (dr, hDict w lr tr) (by (with_reducible repeat' first | exact List.mem_cons_self .. | refine List.mem_cons_of_mem _ ?_))
  change wpAny _ _ (call (.ref 216) [.ref xd]) _ _ _
  refine' hitems_use ?q1 F ?q3 N ?q5 ?q6 ?q7 (t := td) (vs := List.map HE.ref esD) (cp := cD) (by (with_reducible repeat' first | exact List.forall_mem_nil _ | refine List.forall_mem_cons.mpr ⟨?_, ?_⟩ | exact List.mem_cons_self .. | refine List.mem_cons_of_mem _ ?_)) x1 x2 x3 (l8 tD ln) ?qd ?qu ?_
  case q1 => k_asm
  case q3 => k_asm
  case q5 => k_asm
  case q6 => exact rfl
  case q7 => assumption
  case qd => (first | exact room1 (by assumption) rfl | exact room0 (by assumption) | ktr_room)
  case qu => (first | exact units1 (by assumption) rfl | ktr_units)
  intro l2 h1 tk1 U1 F1 N1
  try dsimp only
  (repeat' (first | (k_unfold; (try dsimp only)) | ((fail_if_success (with_reducible first | show wpAny _ _ (PySem.call (Value.ref _) _) _ _ _ | show wpAny _ _ (pyIter (Value.ref _)) _ _ _ | show wpAny _ _ (exec (Stmt.For _ _ _ _ _) _) _ _ _ | show wpAny _ _ (subscriptTail _ _ _ _) _ _ _ | show DEnd _ _ _ _ _ _ _ _ _ _ _ _ _ _ | show wpAny _ _ (setItem _ _ _) _ _ _ | show wpAny _ _ (getItem _ _) _ _ _ | show LCg.CompSrc _ _ _ _ _ _ _ _ _ _ _ _ _ _ | show LCg.CompEnd _ _ _ _ _ _ _ _ _ _ _ _ _ _ | show wpAny _ _ (eval (Expr.ListComp _ _ _ _) _) _ _ _ | show wpAny _ _ (eval (Expr.DictComp _ _ _ _ _) _) _ _ _ | show wpAny _ _ (exec (Stmt.Assign _ (Expr.ListComp _ _ _ _) _) _) _ _ _ | show wpAny _ _ (exec (Stmt.Assign _ (Expr.DictComp _ _ _ _ _) _) _) _ _ _ | show _ ≤ _)); (first | walk1 | (dsimp only; walk1)) <;> (try dsimp only)) | (leave1; try dsimp only) | fail "no step"))
  (rename Fr _ _ _ _ => lF2); (rename News _ _ _ _ => lN2)
  rename ∀ p ∈ (l2, lstO (List.map HE.ref esD)) :: _, _ => lT
  refine append_K lF2 (cb_drop (news := (l2, lstO (List.map HE.ref esD)) :: (ld, lstC (List.map HE.ref esD) cD) :: (xd, instObj 252 dd) :: (dd, hDict w ld td) :: (lr, lstC (List.map HE.ref esR) cR) :: (xr, instObj 252 dr) :: (dr, hDict w lr tr) :: (la, lstC (List.map HE.ref lsL) cL) :: (le, lstC (List.map HE.ref lsE) cE) :: tl) lN2 (fun q hq => List.mem_cons_of_mem _ hq)) (.head fun q hq => Nat.ne_of_lt (U1 q hq)) ?_ (by rw [List.size_toArray]; exact Nat.le_trans (l8 tD ln) (by decide))
  clear lF2 lN2
  intro h2 F2 N2
  replace N2 := cb_drop (news := (ld, lstC (List.map HE.ref esD) cD) :: (xd, instObj 252 dd) :: (dd, hDict w ld td) :: (lr, lstC (List.map HE.ref esR) cR) :: (xr, instObj 252 dr) :: (dr, hDict w lr tr) :: (la, lstC (List.map HE.ref lsL) cL) :: (le, lstC (List.map HE.ref lsE) cE) :: tl) N2 (fun q hq => List.mem_cons_of_mem _ hq)
  try dsimp only
  (repeat' (first | (k_unfold; (try dsimp only)) | ((fail_if_success (with_reducible first | show wpAny _ _ (PySem.call (Value.ref _) _) _ _ _ | show wpAny _ _ (pyIter (Value.ref _)) _ _ _ | show wpAny _ _ (exec (Stmt.For _ _ _ _ _) _) _ _ _ | show wpAny _ _ (subscriptTail _ _ _ _) _ _ _ | show DEnd _ _ _ _ _ _ _ _ _ _ _ _ _ _ | show wpAny _ _ (setItem _ _ _) _ _ _ | show wpAny _ _ (getItem _ _) _ _ _ | show LCg.CompSrc _ _ _ _ _ _ _ _ _ _ _ _ _ _ | show LCg.CompEnd _ _ _ _ _ _ _ _ _ _ _ _ _ _ | show wpAny _ _ (eval (Expr.ListComp _ _ _ _) _) _ _ _ | show wpAny _ _ (eval (Expr.DictComp _ _ _ _ _) _) _ _ _ | show wpAny _ _ (exec (Stmt.Assign _ (Expr.ListComp _ _ _ _) _) _) _ _ _ | show wpAny _ _ (exec (Stmt.Assign _ (Expr.DictComp _ _ _ _ _) _) _) _ _ _ | show _ ≤ _)); (first | walk1 | (dsimp only; walk1)) <;> (try dsimp only)) | (leave1; try dsimp only) | fail "no step"))
  change wpAny _ _ (call (.ref 216) [.ref xd]) _ _ _
  refine' hitems_use ?w1 F2 ?w3 N2 ?w5 ?w6 ?w7 (t := td) (vs := List.map HE.ref esD) (cp := cD) (by (with_reducible repeat' first | exact List.forall_mem_nil _ | refine List.forall_mem_cons.mpr ⟨?_, ?_⟩ | exact List.mem_cons_self .. | refine List.mem_cons_of_mem _ ?_)) x1 x2 x3 (l8 tD ln) ?wd ?wu ?_
  case w1 => k_asm
  case w3 => k_asm
  case w5 => k_asm
  case w6 => exact rfl
  case w7 => assumption
  case wd => (first | exact room1 (by assumption) rfl | exact room0 (by assumption) | ktr_room)
  case wu => (first | exact units1 (by assumption) rfl | ktr_units)
  intro l3 h3 tk3 U3 F3 N3
  try dsimp only
  walk1
  have mT : ∀ {es : List HE}, (∀ e ∈ es, e.obj ∈ tl) → ∀ (l9 : Addr × Obj), ∀ e ∈ es, e.obj ∈ l9 :: (ld, lstC (List.map HE.ref esD) cD) :: (xd, instObj 252 dd) :: (dd, hDict w ld td) :: (lr, lstC (List.map HE.ref esR) cR) :: (xr, instObj 252 dr) :: (dr, hDict w lr tr) :: (la, lstC (List.map HE.ref lsL) cL) :: (le, lstC (List.map HE.ref lsE) cE) :: tl := fun h l9 e he => List.mem_cons_of_mem _ (List.mem_append_right [(ld, lstC (List.map HE.ref esD) cD), (xd, instObj 252 dd), (dd, hDict w ld td), (lr, lstC (List.map HE.ref esR) cR), (xr, instObj 252 dr), (dr, hDict w lr tr), (la, lstC (List.map HE.ref lsL) cL), (le, lstC (List.map HE.ref lsE) cE)] (h e he))
  have dD := tup_dat (n := (l3, lstO (List.map HE.ref esD)) :: (ld, lstC (List.map HE.ref esD) cD) :: (xd, instObj 252 dd) :: (dd, hDict w ld td) :: (lr, lstC (List.map HE.ref esR) cR) :: (xr, instObj 252 dr) :: (dr, hDict w lr tr) :: (la, lstC (List.map HE.ref lsL) cL) :: (le, lstC (List.map HE.ref lsE) cE) :: tl) (mT hD (l3, lstO (List.map HE.ref esD)))
  have dL := tup_dat (n := (l3, lstO (List.map HE.ref esD)) :: (ld, lstC (List.map HE.ref esD) cD) :: (xd, instObj 252 dd) :: (dd, hDict w ld td) :: (lr, lstC (List.map HE.ref esR) cR) :: (xr, instObj 252 dr) :: (dr, hDict w lr tr) :: (la, lstC (List.map HE.ref lsL) cL) :: (le, lstC (List.map HE.ref lsE) cE) :: tl) (mT hL (l3, lstO (List.map HE.ref esD)))
  rw [tD] at dD
  rw [tL] at dL
  refine kqd_ne_same N3 (a := l3) (b := la) (oa := lstO (List.map HE.ref esD)) (ob := lstC (List.map HE.ref lsL) cL) (by (with_reducible repeat' first | exact List.mem_cons_self .. | refine List.mem_cons_of_mem _ ?_)) rfl rfl dD (fun _ h => h) (by (with_reducible repeat' first | exact List.mem_cons_self .. | refine List.mem_cons_of_mem _ ?_)) rfl rfl dL (fun _ h => h) (ok_nm hpr) ?b3 ?_
  case b3 => (first | exact units1 (by assumption) rfl | ktr_units)
  have lN5 := cb_drop (news := (ld, lstC (List.map HE.ref esD) cD) :: (xd, instObj 252 dd) :: (dd, hDict w ld td) :: (lr, lstC (List.map HE.ref esR) cR) :: (xr, instObj 252 dr) :: (dr, hDict w lr tr) :: (la, lstC (List.map HE.ref lsL) cL) :: (le, lstC (List.map HE.ref lsE) cE) :: tl) N3 (fun q hq => List.mem_cons_of_mem _ hq)
  clear N3 dD dL
  (repeat' (first | (k_unfold; (try dsimp only)) | ((fail_if_success (with_reducible first | show wpAny _ _ (PySem.call (Value.ref _) _) _ _ _ | show wpAny _ _ (pyIter (Value.ref _)) _ _ _ | show wpAny _ _ (exec (Stmt.For _ _ _ _ _) _) _ _ _ | show wpAny _ _ (subscriptTail _ _ _ _) _ _ _ | show DEnd _ _ _ _ _ _ _ _ _ _ _ _ _ _ | show wpAny _ _ (setItem _ _ _) _ _ _ | show wpAny _ _ (getItem _ _) _ _ _ | show LCg.CompSrc _ _ _ _ _ _ _ _ _ _ _ _ _ _ | show LCg.CompEnd _ _ _ _ _ _ _ _ _ _ _ _ _ _ | show wpAny _ _ (eval (Expr.ListComp _ _ _ _) _) _ _ _ | show wpAny _ _ (eval (Expr.DictComp _ _ _ _ _) _) _ _ _ | show wpAny _ _ (exec (Stmt.Assign _ (Expr.ListComp _ _ _ _) _) _) _ _ _ | show wpAny _ _ (exec (Stmt.Assign _ (Expr.DictComp _ _ _ _ _) _) _) _ _ _ | show _ ≤ _)); (first | walk1 | (dsimp only; walk1)) <;> (try dsimp only)) | (leave1; try dsimp only) | fail "no step"))
  change wpAny _ _ (call (.ref 216) [.ref xr]) _ _ _
  refine' hitems_use ?v1 (by k_asm) ?v3 lN5 ?v5 ?v6 ?v7 (t := tr) (vs := List.map HE.ref esR) (cp := cR) (by (with_reducible repeat' first | exact List.forall_mem_nil _ | refine List.forall_mem_cons.mpr ⟨?_, ?_⟩ | exact List.mem_cons_self .. | refine List.mem_cons_of_mem _ ?_)) y1 y2 y3 (l8 tR lrr) ?vd ?vu ?_
  case v1 => k_asm
  case v3 => k_asm
  case v5 => k_asm
  case v6 => exact rfl
  case v7 => assumption
  case vd => (first | exact room1 (by assumption) rfl | exact room0 (by assumption) | ktr_room)
  case vu => (first | exact units1 (by assumption) rfl | ktr_units)
  intro l4 h4 tk4 U4 F4 N4
  try dsimp only
  walk1
  have dR := tup_dat (n := (l4, lstO (List.map HE.ref esR)) :: (ld, lstC (List.map HE.ref esD) cD) :: (xd, instObj 252 dd) :: (dd, hDict w ld td) :: (lr, lstC (List.map HE.ref esR) cR) :: (xr, instObj 252 dr) :: (dr, hDict w lr tr) :: (la, lstC (List.map HE.ref lsL) cL) :: (le, lstC (List.map HE.ref lsE) cE) :: tl) (mT hR (l4, lstO (List.map HE.ref esR)))
  have dE := tup_dat (n := (l4, lstO (List.map HE.ref esR)) :: (ld, lstC (List.map HE.ref esD) cD) :: (xd, instObj 252 dd) :: (dd, hDict w ld td) :: (lr, lstC (List.map HE.ref esR) cR) :: (xr, instObj 252 dr) :: (dr, hDict w lr tr) :: (la, lstC (List.map HE.ref lsL) cL) :: (le, lstC (List.map HE.ref lsE) cE) :: tl) (mT hE (l4, lstO (List.map HE.ref esR)))
  rw [tR] at dR
  rw [tE] at dE
  refine kqd_ne_same N4 (a := l4) (b := le) (oa := lstO (List.map HE.ref esR)) (ob := lstC (List.map HE.ref lsE) cE) (by (with_reducible repeat' first | exact List.mem_cons_self .. | refine List.mem_cons_of_mem _ ?_)) rfl rfl dR (fun _ h => h) (by (with_reducible repeat' first | exact List.mem_cons_self .. | refine List.mem_cons_of_mem _ ?_)) rfl rfl dE (fun _ h => h) (ok_rd hpr) ?b4 ?_
  case b4 => (first | exact units1 (by assumption) rfl | ktr_units)
  have lN6 := cb_drop (news := (ld, lstC (List.map HE.ref esD) cD) :: (xd, instObj 252 dd) :: (dd, hDict w ld td) :: (lr, lstC (List.map HE.ref esR) cR) :: (xr, instObj 252 dr) :: (dr, hDict w lr tr) :: (la, lstC (List.map HE.ref lsL) cL) :: (le, lstC (List.map HE.ref lsE) cE) :: tl) N4 (fun q hq => List.mem_cons_of_mem _ hq)
  clear N4 dR dE
  (repeat' (first | (k_unfold; (try dsimp only)) | ((fail_if_success (with_reducible first | show wpAny _ _ (PySem.call (Value.ref _) _) _ _ _ | show wpAny _ _ (pyIter (Value.ref _)) _ _ _ | show wpAny _ _ (exec (Stmt.For _ _ _ _ _) _) _ _ _ | show wpAny _ _ (subscriptTail _ _ _ _) _ _ _ | show DEnd _ _ _ _ _ _ _ _ _ _ _ _ _ _ | show wpAny _ _ (setItem _ _ _) _ _ _ | show wpAny _ _ (getItem _ _) _ _ _ | show LCg.CompSrc _ _ _ _ _ _ _ _ _ _ _ _ _ _ | show LCg.CompEnd _ _ _ _ _ _ _ _ _ _ _ _ _ _ | show wpAny _ _ (eval (Expr.ListComp _ _ _ _) _) _ _ _ | show wpAny _ _ (eval (Expr.DictComp _ _ _ _ _) _) _ _ _ | show wpAny _ _ (exec (Stmt.Assign _ (Expr.ListComp _ _ _ _) _) _) _ _ _ | show wpAny _ _ (exec (Stmt.Assign _ (Expr.DictComp _ _ _ _ _) _) _) _ _ _ | show _ ≤ _)); (first | walk1 | (dsimp only; walk1)) <;> (try dsimp only)) | (leave1; try dsimp only) | fail "no step"))
  exact ret _ _ (by k_asm) lN6
end
end
theorem offLA6 : True := by
  w_top off
  exact True.intro
section
open PySem PySem.W PySem.Spec PySem.Calls PyProof.Rows
section
variable {w : World} {p : Program} {loose : List PySem.Str} {mean : ExcName → Option Value} {mg mb : PySem.Str → Option Value}
theorem look_stored {kvs : List (PySem.Str × Value)} (k k' : PySem.Str) (v : Value) : valueAt (stored kvs k v) k' = if k' = k then some v else valueAt kvs k' := by
  unfold stored valueAt
  split
  · rename_i h
    rw [List.find?_map, Option.map_map]
    by_cases hk : k' = k
    · subst hk
      rw [if_pos rfl]
      obtain ⟨q, hq, e⟩ := List.any_eq_true.mp h
      have he : q.1 = k' := by simpa using e
      have hs : (kvs.find? ((fun p : PySem.Str × Value => decide (p.1 = k')) ∘ fun p => if p.1 = k' then (p.1, v) else p)).isSome = true := by
        rw [List.find?_isSome]; exact ⟨q, hq, by simp [he]⟩
      obtain ⟨r, hr⟩ := Option.isSome_iff_exists.mp hs
      have hr2 := List.find?_some hr
      have hrk : r.1 = k' := by
        simp only [Function.comp] at hr2
        split at hr2
        · assumption
        · simpa using hr2
      rw [hr]
      simp [hrk]
    · rw [if_neg hk]
      have e : ((fun p : PySem.Str × Value => decide (p.1 = k')) ∘ fun p => if p.1 = k then (p.1, v) else p) = fun p => decide (p.1 = k') := by
        funext p; simp only [Function.comp]; split <;> rfl
      rw [e]
      cases hf : kvs.find? (fun p => decide (p.1 = k')) with
      | none => rfl
      | some r =>
        have hr := List.find?_some hf
        have hrk : r.1 = k' := by simpa using hr
        have hne : ¬ r.1 = k := fun e => hk (hrk.symm.trans e)
        simp [hne]
  · rename_i h
    rw [List.find?_append]
    by_cases hk : k' = k
    · subst hk
      have hn : kvs.find? (fun p => decide (p.1 = k')) = none := by
        rw [List.find?_eq_none]
        intro q hq hd
        exact h (List.any_eq_true.mpr ⟨q, hq, hd⟩)
      rw [hn, if_pos rfl]; simp
    · rw [if_neg hk]
      have hk2 : ¬ k = k' := fun e => hk e.symm
      cases hf : kvs.find? (fun p => decide (p.1 = k')) with
      | none => simp [hk2]
      | some r => simp
inductive AfJ (w : World) (ps : List PE) (k0 : Nat) (tk0 td tr : Tok) (P LL xd dd ld xr dr lr la le i5 : Addr) (o1 o2 o3 : Obj) (i : Nat) (m' : PySem.Str → Option Value) (n' : Led) : Prop
  | mk (a1 : m' "steps" = some (.str stepsT tk0)) (a2 : m' "pairs" = some (.ref P)) (a3 : m' "doors" = some (.ref xd)) (a4 : m' "roads" = some (.ref xr)) (a5 : m' "laid" = some (.ref la)) (a6 : m' "ends" = some (.ref le))
      (esD esR lsL lsE : List HE) (cD cR cL cE : Nat) (TT : Led) (e : n' = (ld, lstC (List.map HE.ref esD) cD) :: (xd, instObj 252 dd) :: (dd, hDict w ld td) :: (lr, lstC (List.map HE.ref esR) cR) :: (xr, instObj 252 dr) :: (dr, hDict w lr tr) :: (la, lstC (List.map HE.ref lsL) cL) :: (le, lstC (List.map HE.ref lsE) cE) :: (TT ++ [(LL + 1 + 1 + 1, o1), (LL + 1 + 1, o2), (LL + 1, o3), (P, lstC (ps.map PE.ref) k0)])) (nd : ∀ oi : Obj, DistL ((ld, lstC (List.map HE.ref esD) cD) :: (xd, instObj 252 dd) :: (dd, hDict w ld td) :: (lr, lstC (List.map HE.ref esR) cR) :: (xr, instObj 252 dr) :: (dr, hDict w lr tr) :: (la, lstC (List.map HE.ref lsL) cL) :: (le, lstC (List.map HE.ref lsE) cE) :: (TT ++ [(LL + 1 + 1 + 1, o1), (LL + 1 + 1, o2), (LL + 1, o3), (P, lstC (ps.map PE.ref) k0), (i5, oi)])))
      (hD : ∀ e ∈ esD, e.obj ∈ TT) (hR : ∀ e ∈ esR, e.obj ∈ TT) (hL : ∀ e ∈ lsL, e.obj ∈ TT) (hE : ∀ e ∈ lsE, e.obj ∈ TT)
      (tD : esD.map HE.tx = nmL (ps.map PE.nf) i) (tR : esR.map HE.tx = rdL (ps.map PE.nf) i) (tL : lsL.map HE.tx = nmL (ps.map PE.nf) i) (tE : lsE.map HE.tx = rdL (ps.map PE.nf) i)
inductive AfK (w : World) (ps : List PE) (k0 : Nat) (s1 : Int) (tk0 td tr : Tok) (P LL xd dd ld xr dr lr la le i6 aA : Addr) (o3 : Obj) (esD esR lsL lsE : List HE) (cD cR cL cE : Nat) (TT' : Led) (i : Nat) (m' : PySem.Str → Option Value) (n' : Led) : Prop
  | mk (b1 : m' "steps" = some (.str stepsT tk0)) (b2 : m' "roads" = some (.ref xr)) (b3 : m' "doors" = some (.ref xd)) (b4 : m' "laid" = some (.ref la)) (b5 : m' "after" = some (.ref aA))
      (o1 o2 oA : Obj) (u1 u2 : Option Value) (kA : List (PySem.Str × Value)) (ds : List IE) (e : n' = (LL + 1 + 1 + 1, o1) :: (LL + 1 + 1, o2) :: (xr, instObj 252 dr) :: (dr, hDict w lr tr) :: (lr, lstC (List.map HE.ref esR) cR) :: (LL + 1, o3) :: (aA, oA) :: (xd, instObj 252 dd) :: (dd, hDict w ld td) :: (ld, lstC (List.map HE.ref esD) cD) :: (la, lstC (List.map HE.ref lsL) cL) :: (ds.map IE.obj ++ (TT' ++ [(P, lstC (ps.map PE.ref) k0), (le, lstC (List.map HE.ref lsE) cE)]))) (nd : ∀ oi : Obj, DistL ((LL + 1 + 1 + 1, o1) :: (LL + 1 + 1, o2) :: (xr, instObj 252 dr) :: (dr, hDict w lr tr) :: (lr, lstC (List.map HE.ref esR) cR) :: (LL + 1, o3) :: (aA, oA) :: (xd, instObj 252 dd) :: (dd, hDict w ld td) :: (ld, lstC (List.map HE.ref esD) cD) :: (la, lstC (List.map HE.ref lsL) cL) :: (ds.map IE.obj ++ (TT' ++ [(P, lstC (ps.map PE.ref) k0), (le, lstC (List.map HE.ref lsE) cE), (i6, oi)])))) (d1 : o1.data = .cell u1) (d2 : o2.data = .cell u2)
      (hA : oA.IsDictOf (PySem.strKind PySem.Challenge.rw_wy0040_01.row.toRowW.prog w) kA) (lk : kA.length ≤ i) (hat : ∀ j, j < i → ∃ e, e ∈ ds ∧ valueAt kA (key j) = some (.ref e.d) ∧ e.o.IsDictOf (PySem.strKind PySem.Challenge.rw_wy0040_01.row.toRowW.prog w) e.kv ∧ DInts e.kv (innL (town (ps.map PE.nf)) s1 j)) (hfar : ∀ e ∈ ds, @LT.lt Nat _ LL e.d ∧ e.o.IsDictOf (PySem.strKind PySem.Challenge.rw_wy0040_01.row.toRowW.prog w) e.kv)
inductive PAF (w : World) (ps : List PE) (P : Addr) (k0 : Nat) (s1 : Int) (n' : Led) (r : Value) : Prop
  | mk (aA : Addr) (oA : Obj) (kA : List (PySem.Str × Value)) (ds : List IE) (e1 : r = .ref aA) (e2 : n' = ((aA, oA) :: ds.map IE.obj) ++ ((P, lstC (ps.map PE.ref) k0) :: ps.map PE.obj)) (h1 : oA.IsDictOf (PySem.strKind PySem.Challenge.rw_wy0040_01.row.toRowW.prog w) kA) (h2 : AftIs w (town (ps.map PE.nf)) s1 kA ds) (h3 : @LT.lt Nat _ 54 aA) (h4 : ∀ e ∈ ds, @Ne Nat aA e.d ∧ e.o.IsDictOf (PySem.strKind PySem.Challenge.rw_wy0040_01.row.toRowW.prog w) e.kv)
set_option maxHeartbeats 4000000 in
theorem lafter {ps : List PE} {P : Addr} {s1 : Int} {tp : Tok} {k0 : Nat} (hp4 : ps.length = 4) (hpr : In3 (ps.map PE.nf)) (dps : ∀ e ∈ ps, @Ne Nat P e.a ∧ @LT.lt Nat _ 54 e.a) :
    Ok w p loose mean mg mb 266 [.ref P, .int (1 - s1) tp] 160 ([(P, lstC (ps.map PE.ref) k0)] ++ ps.map PE.obj)
      (fun _ => PAF w ps P k0 s1) := by
  unfold Ok
  k_fill
  intro dp un gd cn cs fa ccd cl outer A₀ base h₀ L m s rest Q E B F X N ap T hk hC hd hu hret
  have ap2 : Apart [(P, lstC (ps.map PE.ref) k0)] (ps.map PE.obj ++ rest) := apart_move ap (fun q hq q2 hq2 => by
    obtain ⟨e, hee, rfl⟩ := List.mem_map.mp hq2
    rw [List.mem_singleton.mp hq]
    exact (dps e hee).1)
  have N2 : News h₀ L s.heap ([(P, lstC (ps.map PE.ref) k0)] ++ (ps.map PE.obj ++ rest)) := by rw [← List.append_assoc]; exact N
  have hret2 := hret
  clear hret
  clear ap N
  have N := N2
  clear N2
  refine wpAny_call ?_
  (k_dflt (refine' code_defCR ?k1n54 ?k2n54 ?k3n54 ?k4n54 ?kapn54 ?k5n54 ?kAn54 ?kFn54 ?kKn54 ?k6n54 ?k7n54 ?k8n54 ?k9n54 ?kBn54 ?kDn54 ?_ ?c2n54 ?c3n54 ?c4n54; (case kAn54 | kFn54 => exact rfl); (case kKn54 | k4n54 | kapn54 => assumption); (case k1n54 | k2n54 | k3n54 | k5n54 => k_asm); (case k6n54 | k7n54 => k_is); (case k8n54 => (first | exact room1 (by assumption) rfl | exact room0 (by assumption) | ktr_room)); (case k9n54 => exact BindsTo.of_eq rfl); (case kBn54 => exact rfl); (case kDn54 => decide +kernel); (case c2n54 | c3n54 | c4n54 => exact rfl))); ktr_step
  rename_i gg LL hh0 tk0 FG F0 BB XX TT lr0 hRs hU l0 o1 o2 o3 e1 e2 e3 NC
  have l54 : @LT.lt Nat _ 54 LL := by
    have h0 : 0 < ps.length := by (first | lia | omega)
    have hm := List.getElem_mem h0
    exact Nat.lt_trans (dps _ hm).2 (hU (ps[0]).obj (List.mem_append_right _ (List.mem_append_left _ (List.mem_map_of_mem hm))))
  have c3 : o3.data = .cell (some (.int (1 - s1) tp)) := by rw [e3]; kernel_rfl
  have c2 : o2.data = .cell none := by rw [e2]; kernel_rfl
  have c1 : o1.data = .cell none := by rw [e1]; kernel_rfl
  clear e1 e2 e3
  (repeat' (first | (k_unfold; (try dsimp only)) | ((fail_if_success (with_reducible first | show wpAny _ _ (PySem.call (Value.ref _) _) _ _ _ | show wpAny _ _ (pyIter (Value.ref _)) _ _ _ | show wpAny _ _ (exec (Stmt.For _ _ _ _ _) _) _ _ _ | show wpAny _ _ (subscriptTail _ _ _ _) _ _ _ | show DEnd _ _ _ _ _ _ _ _ _ _ _ _ _ _ | show wpAny _ _ (setItem _ _ _) _ _ _ | show wpAny _ _ (getItem _ _) _ _ _ | show LCg.CompSrc _ _ _ _ _ _ _ _ _ _ _ _ _ _ | show LCg.CompEnd _ _ _ _ _ _ _ _ _ _ _ _ _ _ | show wpAny _ _ (eval (Expr.ListComp _ _ _ _) _) _ _ _ | show wpAny _ _ (eval (Expr.DictComp _ _ _ _ _) _) _ _ _ | show wpAny _ _ (exec (Stmt.Assign _ (Expr.ListComp _ _ _ _) _) _) _ _ _ | show wpAny _ _ (exec (Stmt.Assign _ (Expr.DictComp _ _ _ _ _) _) _) _ _ _ | show _ ≤ _)); (first | walk1 | (dsimp only; walk1)) <;> (try dsimp only)) | (leave1; try dsimp only) | fail "no step"))
  change wpAny _ _ (call (.ref 252) []) _ _ _
  (k_dflt (refine' Ok.use ?k1n52 ?k2n52 ?k3n52 ?k4n52 ?k5n52 ?kKn52 ?kCn52 (hnew) ?kPn52 ?kapn52 ?kdn52 ?kun52 ?_); (case k1n52 | k2n52 | k3n52 | k4n52 | k5n52 => k_asm); (case kKn52 => exact rfl); (case kCn52 => assumption); (case kPn52 => (repeat' first | exact Picks.nil | (with_reducible exact Pick.head) | apply Picks.cons | apply Pick.tail)); (case kapn52 => (k_whole; unfold Apart; repeat' (first | exact List.forall_mem_nil _ | (refine List.forall_mem_cons.mpr ⟨?_, ?_⟩) | k_ne))); (case kdn52 => (first | exact room1 (by assumption) rfl | exact room0 (by assumption) | ktr_room)); (case kun52 => (first | exact units1 (by assumption) rfl | ktr_units)))
  intro b9 r9 n9 h9 tk9 U9 F9 N9 hp9
  obtain ⟨xd, dd, ld, td, y1, y2, y3, rfl, rfl⟩ := hp9
  simp only [List.cons_append, List.nil_append, List.append_nil] at N9 U9
  unfold Under at U9
  k_lt U9
  try dsimp only
  (repeat' (first | (k_unfold; (try dsimp only)) | ((fail_if_success (with_reducible first | show wpAny _ _ (PySem.call (Value.ref _) _) _ _ _ | show wpAny _ _ (pyIter (Value.ref _)) _ _ _ | show wpAny _ _ (exec (Stmt.For _ _ _ _ _) _) _ _ _ | show wpAny _ _ (subscriptTail _ _ _ _) _ _ _ | show DEnd _ _ _ _ _ _ _ _ _ _ _ _ _ _ | show wpAny _ _ (setItem _ _ _) _ _ _ | show wpAny _ _ (getItem _ _) _ _ _ | show LCg.CompSrc _ _ _ _ _ _ _ _ _ _ _ _ _ _ | show LCg.CompEnd _ _ _ _ _ _ _ _ _ _ _ _ _ _ | show wpAny _ _ (eval (Expr.ListComp _ _ _ _) _) _ _ _ | show wpAny _ _ (eval (Expr.DictComp _ _ _ _ _) _) _ _ _ | show wpAny _ _ (exec (Stmt.Assign _ (Expr.ListComp _ _ _ _) _) _) _ _ _ | show wpAny _ _ (exec (Stmt.Assign _ (Expr.DictComp _ _ _ _ _) _) _) _ _ _ | show _ ≤ _)); (first | walk1 | (dsimp only; walk1)) <;> (try dsimp only)) | (leave1; try dsimp only) | fail "no step"))
  change wpAny _ _ (call (.ref 252) []) _ _ _
  (k_dflt (refine' Ok.use ?k1n53 ?k2n53 ?k3n53 ?k4n53 ?k5n53 ?kKn53 ?kCn53 (hnew) ?kPn53 ?kapn53 ?kdn53 ?kun53 ?_); (case k1n53 | k2n53 | k3n53 | k4n53 | k5n53 => k_asm); (case kKn53 => exact rfl); (case kCn53 => assumption); (case kPn53 => (repeat' first | exact Picks.nil | (with_reducible exact Pick.head) | apply Picks.cons | apply Pick.tail)); (case kapn53 => (k_whole; unfold Apart; repeat' (first | exact List.forall_mem_nil _ | (refine List.forall_mem_cons.mpr ⟨?_, ?_⟩) | k_ne))); (case kdn53 => (first | exact room1 (by assumption) rfl | exact room0 (by assumption) | ktr_room)); (case kun53 => (first | exact units1 (by assumption) rfl | ktr_units)))
  intro b8 r8 n8 h8 tk8 U8 F8 N8 hp8
  obtain ⟨xr, dr, lr, tr, y4, y5, y6, rfl, rfl⟩ := hp8
  simp only [List.cons_append, List.nil_append, List.append_nil] at N8 U8
  unfold Under at U8
  k_lt U8
  try dsimp only
  (repeat' (first | (k_unfold; (try dsimp only)) | ((fail_if_success (with_reducible first | show wpAny _ _ (PySem.call (Value.ref _) _) _ _ _ | show wpAny _ _ (pyIter (Value.ref _)) _ _ _ | show wpAny _ _ (exec (Stmt.For _ _ _ _ _) _) _ _ _ | show wpAny _ _ (subscriptTail _ _ _ _) _ _ _ | show DEnd _ _ _ _ _ _ _ _ _ _ _ _ _ _ | show wpAny _ _ (setItem _ _ _) _ _ _ | show wpAny _ _ (getItem _ _) _ _ _ | show LCg.CompSrc _ _ _ _ _ _ _ _ _ _ _ _ _ _ | show LCg.CompEnd _ _ _ _ _ _ _ _ _ _ _ _ _ _ | show wpAny _ _ (eval (Expr.ListComp _ _ _ _) _) _ _ _ | show wpAny _ _ (eval (Expr.DictComp _ _ _ _ _) _) _ _ _ | show wpAny _ _ (exec (Stmt.Assign _ (Expr.ListComp _ _ _ _) _) _) _ _ _ | show wpAny _ _ (exec (Stmt.Assign _ (Expr.DictComp _ _ _ _ _) _) _) _ _ _ | show _ ≤ _)); (first | walk1 | (dsimp only; walk1)) <;> (try dsimp only)) | (leave1; try dsimp only) | fail "no step"))
  (rename News _ _ _ _ => lN1); (rename Fr _ _ _ _ => lF1)
  obtain ⟨le, e⟩ := nmA0 lN1; subst e
  obtain ⟨la, e⟩ := nmA1 lN1; subst e
  have nd0 : DistL ((ld, lstC (List.map HE.ref []) 0) :: (xd, instObj 252 dd) :: (dd, hDict w ld td) :: (lr, lstC (List.map HE.ref []) 0) :: (xr, instObj 252 dr) :: (dr, hDict w lr tr) :: (la, lstC (List.map HE.ref []) 0) :: (le, lstC (List.map HE.ref []) 0) :: [(LL + 1 + 1 + 1, o1), (LL + 1 + 1, o2), (LL + 1, o3), (P, lstC (ps.map PE.ref) k0)]) := by
    repeat' (first | exact List.nodup_nil | refine DistL.add ?_ (by (repeat' first | exact List.forall_mem_nil _ | assumption | refine List.forall_mem_cons.mpr ⟨?_, ?_⟩ | k_ne)))
  walk1
  (repeat' (first | (k_unfold; (try dsimp only)) | ((fail_if_success (with_reducible first | show wpAny _ _ (PySem.call (Value.ref _) _) _ _ _ | show wpAny _ _ (pyIter (Value.ref _)) _ _ _ | show wpAny _ _ (exec (Stmt.For _ _ _ _ _) _) _ _ _ | show LCg.CompSrc _ _ _ _ _ _ _ _ _ _ _ _ _ _ | show LCg.CompEnd _ _ _ _ _ _ _ _ _ _ _ _ _ _ | show wpAny _ _ (eval (Expr.ListComp _ _ _ _) _) _ _ _ | show wpAny _ _ (eval (Expr.DictComp _ _ _ _ _) _) _ _ _ | show wpAny _ _ (exec (Stmt.Assign _ (Expr.ListComp _ _ _ _) _) _) _ _ _ | show wpAny _ _ (exec (Stmt.Assign _ (Expr.DictComp _ _ _ _ _) _) _) _ _ _ | show _ ≤ _)); (first | walk1 | (dsimp only; walk1)) <;> (try dsimp only)) | (leave1; try dsimp only) | fail "no step"))
  (rename IsRange _ _ _ _ _ _ _ _ => lR5); (rename Fr _ _ _ _ => lF5); (rename News _ _ _ _ => lN5)
  have lN6 := cb_drop (news := (ld, lstO []) :: (xd, instObj 252 dd) :: (dd, hDict w ld td) :: (lr, lstO []) :: (xr, instObj 252 dr) :: (dr, hDict w lr tr) :: (la, lstO []) :: (le, lstO []) :: [(LL + 1 + 1 + 1, o1), (LL + 1 + 1, o2), (LL + 1, o3), (P, lstC (ps.map PE.ref) k0)]) lN5 (by (with_reducible repeat' first | exact List.forall_mem_nil _ | refine List.forall_mem_cons.mpr ⟨?_, ?_⟩ | exact List.mem_cons_self .. | refine List.mem_cons_of_mem _ ?_))
  replace lN6 : News gg LL _ ((ld, lstC (List.map HE.ref []) 0) :: (xd, instObj 252 dd) :: (dd, hDict w ld td) :: (lr, lstC (List.map HE.ref []) 0) :: (xr, instObj 252 dr) :: (dr, hDict w lr tr) :: (la, lstC (List.map HE.ref []) 0) :: (le, lstC (List.map HE.ref []) 0) :: [(LL + 1 + 1 + 1, o1), (LL + 1 + 1, o2), (LL + 1, o3), (P, lstC (ps.map PE.ref) k0)]) := lN6
  with_unfolding_all refine iter_rangeUnr (n := 8) (by rfl) lR5 (by decide) (by decide) lF5 lN6 ?_
  intro i5 l5
  have nd1 : ∀ oi : Obj, DistL ((ld, lstC (List.map HE.ref []) 0) :: (xd, instObj 252 dd) :: (dd, hDict w ld td) :: (lr, lstC (List.map HE.ref []) 0) :: (xr, instObj 252 dr) :: (dr, hDict w lr tr) :: (la, lstC (List.map HE.ref []) 0) :: (le, lstC (List.map HE.ref []) 0) :: [(LL + 1 + 1 + 1, o1), (LL + 1 + 1, o2), (LL + 1, o3), (P, lstC (ps.map PE.ref) k0), (i5, oi)]) := fun oi => DistL.ins (a := (ld, lstC (List.map HE.ref []) 0) :: (xd, instObj 252 dd) :: (dd, hDict w ld td) :: (lr, lstC (List.map HE.ref []) 0) :: (xr, instObj 252 dr) :: (dr, hDict w lr tr) :: (la, lstC (List.map HE.ref []) 0) :: (le, lstC (List.map HE.ref []) 0) :: [(LL + 1 + 1 + 1, o1), (LL + 1 + 1, o2), (LL + 1, o3), (P, lstC (ps.map PE.ref) k0)]) (b := []) (d := (i5, oi)) (by rw [List.append_nil]; exact nd0) (by rw [List.append_nil]; exact l5)
  refine range_ind (AfJ w ps k0 tk0 td tr P LL xd dd ld xr dr lr la le i5 o1 o2 o3) ?j0 ?j1 _ _ _ _ (by decide) ?ji
  case ji => exact ⟨rfl, rfl, rfl, rfl, rfl, rfl, [], [], [], [], 0, 0, 0, 0, [], rfl, nd1, (fun _ h => nomatch h), (fun _ h => nomatch h), (fun _ h => nomatch h), (fun _ h => nomatch h), rfl, rfl, rfl, rfl⟩
  case j1 =>
    rintro i m1 n1 hi ⟨a1, a2, a3, a4, a5, a6, esD, esR, lsL, lsE, cD, cR, cL, cE, TT', rfl, nd, hD, hR, hL, hE, tD, tR, tL, tE⟩ tt h1 tk1 F1 N1
    have a7 : ∀ {x : PySem.Str} {v : Value}, m1 x = some v → m1 x = some v := fun h => h
    replace F1 := see7 F1 (x1 := "i") (x2 := "steps") (x3 := "pairs") (x4 := "doors") (x5 := "roads") (x6 := "laid") (x7 := "ends") rfl a1 a2 a3 a4 a5 a6
    have mC : ∀ {es : List HE}, (∀ e ∈ es, e.obj ∈ TT') → ∀ e ∈ es, e.obj ∈ TT' ++ [(LL + 1 + 1 + 1, o1), (LL + 1 + 1, o2), (LL + 1, o3), (P, lstC (ps.map PE.ref) k0), (i5, (itR (0 + ((i + 1 : Nat) : Int)) ((8 : Nat) - ((i + 1 : Nat) : Int))))] := fun h e he => List.mem_append_left _ (h e he)
    refine laTurn (tl := TT' ++ [(LL + 1 + 1 + 1, o1), (LL + 1 + 1, o2), (LL + 1, o3), (P, lstC (ps.map PE.ref) k0), (i5, (itR (0 + ((i + 1 : Nat) : Int)) ((8 : Nat) - ((i + 1 : Nat) : Int))))]) rfl hi BB XX TT hC (by (first | lia | omega)) (by (first | lia | omega)) hp4 hpr (fun q hq => hRs q (List.mem_append_left _ hq)) (k0 := k0) (List.mem_append_right _ (by (with_reducible repeat' first | exact List.mem_cons_self .. | refine List.mem_cons_of_mem _ ?_))) F1 (cb_drop (news := (ld, lstC (List.map HE.ref esD) cD) :: (xd, instObj 252 dd) :: (dd, hDict w ld td) :: (lr, lstC (List.map HE.ref esR) cR) :: (xr, instObj 252 dr) :: (dr, hDict w lr tr) :: (la, lstC (List.map HE.ref lsL) cL) :: (le, lstC (List.map HE.ref lsE) cE) :: (TT' ++ [(LL + 1 + 1 + 1, o1), (LL + 1 + 1, o2), (LL + 1, o3), (P, lstC (ps.map PE.ref) k0), (i5, (itR (0 + ((i + 1 : Nat) : Int)) ((8 : Nat) - ((i + 1 : Nat) : Int))))])) N1 ?x1) (nd _) (mC hD) (mC hR) (mC hL) (mC hE) tD tR tL tE ?_
    case x1 => exact (subB [[(i5, (itR (0 + ((i + 1 : Nat) : Int)) ((8 : Nat) - ((i + 1 : Nat) : Int))))], [(ld, lstC (List.map HE.ref esD) cD)], [(xd, instObj 252 dd)], [(dd, hDict w ld td)], [(lr, lstC (List.map HE.ref esR) cR)], [(xr, instObj 252 dr)], [(dr, hDict w lr tr)], [(la, lstC (List.map HE.ref lsL) cL)], [(le, lstC (List.map HE.ref lsE) cE)], TT', [(LL + 1 + 1 + 1, o1)], [(LL + 1 + 1, o2)], [(LL + 1, o3)], [(P, lstC (ps.map PE.ref) k0)]] 0 [1, 2, 3, 4, 5, 6, 7, 8, 9, 10, 11, 12, 13] 13 [0, 1, 2, 3, 4, 5, 6, 7, 8, 9, 10, 11, 12] rfl : ∀ q ∈ (ld, lstC (List.map HE.ref esD) cD) :: (xd, instObj 252 dd) :: (dd, hDict w ld td) :: (lr, lstC (List.map HE.ref esR) cR) :: (xr, instObj 252 dr) :: (dr, hDict w lr tr) :: (la, lstC (List.map HE.ref lsL) cL) :: (le, lstC (List.map HE.ref lsE) cE) :: (TT' ++ [(LL + 1 + 1 + 1, o1), (LL + 1 + 1, o2), (LL + 1, o3), (P, lstC (ps.map PE.ref) k0), (i5, (itR (0 + ((i + 1 : Nat) : Int)) ((8 : Nat) - ((i + 1 : Nat) : Int))))]), q ∈ (i5, (itR (0 + ((i + 1 : Nat) : Int)) ((8 : Nat) - ((i + 1 : Nat) : Int)))) :: (ld, lstC (List.map HE.ref esD) cD) :: (xd, instObj 252 dd) :: (dd, hDict w ld td) :: (lr, lstC (List.map HE.ref esR) cR) :: (xr, instObj 252 dr) :: (dr, hDict w lr tr) :: (la, lstC (List.map HE.ref lsL) cL) :: (le, lstC (List.map HE.ref lsE) cE) :: (TT' ++ [(LL + 1 + 1 + 1, o1), (LL + 1 + 1, o2), (LL + 1, o3), (P, lstC (ps.map PE.ref) k0)]))
    intro h2 tk2 m2 e7 e8 e9 e10 b1 b2 b3 b4 b5 b6 F2 N2 nd2 x7 x8 x9 x10
    have hoff := (dstB (A := (i5, (itR (0 + ((i + 1 : Nat) : Int)) ((8 : Nat) - ((i + 1 : Nat) : Int)))) :: (ld, lstC (List.map HE.ref (esD ++ [e7])) (cD + 1)) :: (xd, instObj 252 dd) :: (dd, hDict w ld td) :: (lr, lstC (List.map HE.ref (esR ++ [e8])) (cR + 1)) :: (xr, instObj 252 dr) :: (dr, hDict w lr tr) :: (la, lstC (List.map HE.ref (lsL ++ [e9])) (cL + 1)) :: (le, lstC (List.map HE.ref (lsE ++ [e10])) (cE + 1)) :: e10.obj :: e9.obj :: e8.obj :: e7.obj :: (TT' ++ [(LL + 1 + 1 + 1, o1), (LL + 1 + 1, o2), (LL + 1, o3), (P, lstC (ps.map PE.ref) k0)])) [[(ld, lstC (List.map HE.ref (esD ++ [e7])) (cD + 1))], [(xd, instObj 252 dd)], [(dd, hDict w ld td)], [(lr, lstC (List.map HE.ref (esR ++ [e8])) (cR + 1))], [(xr, instObj 252 dr)], [(dr, hDict w lr tr)], [(la, lstC (List.map HE.ref (lsL ++ [e9])) (cL + 1))], [(le, lstC (List.map HE.ref (lsE ++ [e10])) (cE + 1))], [e10.obj], [e9.obj], [e8.obj], [e7.obj], TT', [(LL + 1 + 1 + 1, o1)], [(LL + 1 + 1, o2)], [(LL + 1, o3)], [(P, lstC (ps.map PE.ref) k0)], [(i5, (itR (0 + ((i + 1 : Nat) : Int)) ((8 : Nat) - ((i + 1 : Nat) : Int))))]] 16 [17, 0, 1, 2, 3, 4, 5, 6, 7, 8, 9, 10, 11, 12, 13, 14, 15] 17 [0, 1, 2, 3, 4, 5, 6, 7, 8, 9, 10, 11, 12, 13, 14, 15, 16] rfl rfl nd2).hd
    have mS : ∀ {es : List HE} {e : HE}, (∀ e ∈ es, e.obj ∈ TT') → e.obj ∈ e10.obj :: e9.obj :: e8.obj :: e7.obj :: TT' → ∀ x ∈ es ++ [e], x.obj ∈ e10.obj :: e9.obj :: e8.obj :: e7.obj :: TT' := fun h he x hx => by
      rcases List.mem_append.mp hx with hx | hx
      · exact List.mem_cons_of_mem _ (List.mem_cons_of_mem _ (List.mem_cons_of_mem _ (List.mem_cons_of_mem _ (h x hx))))
      · rw [List.mem_singleton.mp hx]; exact he
    exact ⟨h2, tk2, m2, (ld, lstC (List.map HE.ref (esD ++ [e7])) (cD + 1)) :: (xd, instObj 252 dd) :: (dd, hDict w ld td) :: (lr, lstC (List.map HE.ref (esR ++ [e8])) (cR + 1)) :: (xr, instObj 252 dr) :: (dr, hDict w lr tr) :: (la, lstC (List.map HE.ref (lsL ++ [e9])) (cL + 1)) :: (le, lstC (List.map HE.ref (lsE ++ [e10])) (cE + 1)) :: e10.obj :: e9.obj :: e8.obj :: e7.obj :: (TT' ++ [(LL + 1 + 1 + 1, o1), (LL + 1 + 1, o2), (LL + 1, o3), (P, lstC (ps.map PE.ref) k0)]), rfl, F2, cb_drop (news := (i5, (itR (0 + ((i + 1 : Nat) : Int)) ((8 : Nat) - ((i + 1 : Nat) : Int)))) :: (ld, lstC (List.map HE.ref (esD ++ [e7])) (cD + 1)) :: (xd, instObj 252 dd) :: (dd, hDict w ld td) :: (lr, lstC (List.map HE.ref (esR ++ [e8])) (cR + 1)) :: (xr, instObj 252 dr) :: (dr, hDict w lr tr) :: (la, lstC (List.map HE.ref (lsL ++ [e9])) (cL + 1)) :: (le, lstC (List.map HE.ref (lsE ++ [e10])) (cE + 1)) :: e10.obj :: e9.obj :: e8.obj :: e7.obj :: (TT' ++ [(LL + 1 + 1 + 1, o1), (LL + 1 + 1, o2), (LL + 1, o3), (P, lstC (ps.map PE.ref) k0)])) N2 (subB [[(ld, lstC (List.map HE.ref (esD ++ [e7])) (cD + 1))], [(xd, instObj 252 dd)], [(dd, hDict w ld td)], [(lr, lstC (List.map HE.ref (esR ++ [e8])) (cR + 1))], [(xr, instObj 252 dr)], [(dr, hDict w lr tr)], [(la, lstC (List.map HE.ref (lsL ++ [e9])) (cL + 1))], [(le, lstC (List.map HE.ref (lsE ++ [e10])) (cE + 1))], [e10.obj], [e9.obj], [e8.obj], [e7.obj], TT', [(LL + 1 + 1 + 1, o1)], [(LL + 1 + 1, o2)], [(LL + 1, o3)], [(P, lstC (ps.map PE.ref) k0)], [(i5, (itR (0 + ((i + 1 : Nat) : Int)) ((8 : Nat) - ((i + 1 : Nat) : Int))))]] 16 [17, 0, 1, 2, 3, 4, 5, 6, 7, 8, 9, 10, 11, 12, 13, 14, 15] 17 [0, 1, 2, 3, 4, 5, 6, 7, 8, 9, 10, 11, 12, 13, 14, 15, 16] rfl : ∀ q ∈ (i5, (itR (0 + ((i + 1 : Nat) : Int)) ((8 : Nat) - ((i + 1 : Nat) : Int)))) :: (ld, lstC (List.map HE.ref (esD ++ [e7])) (cD + 1)) :: (xd, instObj 252 dd) :: (dd, hDict w ld td) :: (lr, lstC (List.map HE.ref (esR ++ [e8])) (cR + 1)) :: (xr, instObj 252 dr) :: (dr, hDict w lr tr) :: (la, lstC (List.map HE.ref (lsL ++ [e9])) (cL + 1)) :: (le, lstC (List.map HE.ref (lsE ++ [e10])) (cE + 1)) :: e10.obj :: e9.obj :: e8.obj :: e7.obj :: (TT' ++ [(LL + 1 + 1 + 1, o1), (LL + 1 + 1, o2), (LL + 1, o3), (P, lstC (ps.map PE.ref) k0)]), q ∈ (ld, lstC (List.map HE.ref (esD ++ [e7])) (cD + 1)) :: (xd, instObj 252 dd) :: (dd, hDict w ld td) :: (lr, lstC (List.map HE.ref (esR ++ [e8])) (cR + 1)) :: (xr, instObj 252 dr) :: (dr, hDict w lr tr) :: (la, lstC (List.map HE.ref (lsL ++ [e9])) (cL + 1)) :: (le, lstC (List.map HE.ref (lsE ++ [e10])) (cE + 1)) :: e10.obj :: e9.obj :: e8.obj :: e7.obj :: (TT' ++ [(LL + 1 + 1 + 1, o1), (LL + 1 + 1, o2), (LL + 1, o3), (P, lstC (ps.map PE.ref) k0), (i5, (itR (0 + ((i + 1 : Nat) : Int)) ((8 : Nat) - ((i + 1 : Nat) : Int))))])), hoff, b1, b2, b3, b4, b5, b6, esD ++ [e7], esR ++ [e8], lsL ++ [e9], lsE ++ [e10], cD + 1, cR + 1, cL + 1, cE + 1, e10.obj :: e9.obj :: e8.obj :: e7.obj :: TT', rfl,
      fun oi => nd2.congr (by simp only [List.map_cons, List.map_append, List.map_nil, List.append_assoc, List.cons_append]), mS hD (by kl_some), mS hR (by kl_some), mS hL (by kl_some), mS hE (by kl_some), by rw [List.map_append, tD, nmL_succ, List.map_cons, List.map_nil, x7], by rw [List.map_append, tR, rdL_succ, List.map_cons, List.map_nil, x8], by rw [List.map_append, tL, nmL_succ, List.map_cons, List.map_nil, x9], by rw [List.map_append, tE, rdL_succ, List.map_cons, List.map_nil, x10]⟩
  case j0 =>
    rintro m1 n1 ⟨a1, a2, a3, a4, a5, a6, esD, esR, lsL, lsE, cD, cR, cL, cE, TT', rfl, nd, hD, hR, hL, hE, tD, tR, tL, tE⟩ h1 tk1 F1 N1
    try dsimp only
    replace F1 := see6 F1 a1 a2 a3 a4 a5 a6
    have ndC := (dstB (A := (i5, o3) :: (ld, lstC (List.map HE.ref esD) cD) :: (xd, instObj 252 dd) :: (dd, hDict w ld td) :: (lr, lstC (List.map HE.ref esR) cR) :: (xr, instObj 252 dr) :: (dr, hDict w lr tr) :: (la, lstC (List.map HE.ref lsL) cL) :: (le, lstC (List.map HE.ref lsE) cE) :: (TT' ++ [(LL + 1 + 1 + 1, o1), (LL + 1 + 1, o2), (LL + 1, o3), (P, lstC (ps.map PE.ref) k0)])) [[(ld, lstC (List.map HE.ref esD) cD)], [(xd, instObj 252 dd)], [(dd, hDict w ld td)], [(lr, lstC (List.map HE.ref esR) cR)], [(xr, instObj 252 dr)], [(dr, hDict w lr tr)], [(la, lstC (List.map HE.ref lsL) cL)], [(le, lstC (List.map HE.ref lsE) cE)], TT', [(LL + 1 + 1 + 1, o1)], [(LL + 1 + 1, o2)], [(LL + 1, o3)], [(P, lstC (ps.map PE.ref) k0)], [(i5, o3)]] 12 [13, 0, 1, 2, 3, 4, 5, 6, 7, 8, 9, 10, 11] 13 [0, 1, 2, 3, 4, 5, 6, 7, 8, 9, 10, 11, 12] rfl rfl (nd o3)).tl
    have mC : ∀ {es : List HE}, (∀ e ∈ es, e.obj ∈ TT') → ∀ e ∈ es, e.obj ∈ TT' ++ [(LL + 1 + 1 + 1, o1), (LL + 1 + 1, o2), (LL + 1, o3), (P, lstC (ps.map PE.ref) k0)] := fun h e he => List.mem_append_left _ (h e he)
    refine laCheck (stm := ((topFn 24).1.drop 6).take 2) (rest := (topFn 24).1.drop 8) (tl := TT' ++ [(LL + 1 + 1 + 1, o1), (LL + 1 + 1, o2), (LL + 1, o3), (P, lstC (ps.map PE.ref) k0)]) rfl BB XX TT hC (by (first | lia | omega)) (by (first | lia | omega)) hpr F1 N1 ndC (mC hD) (mC hR) (mC hL) (mC hE) tD tR tL tE ?_
    clear F1 N1
    intro h2 tk2 F2 N2
    conv in (execs (List.drop 8 _) _) => {arg 1; whnf}
    (repeat' (first | (k_unfold; (try dsimp only)) | ((fail_if_success (with_reducible first | show wpAny _ _ (PySem.call (Value.ref _) _) _ _ _ | show wpAny _ _ (pyIter (Value.ref _)) _ _ _ | show wpAny _ _ (exec (Stmt.For _ _ _ _ _) _) _ _ _ | show wpAny _ _ (subscriptTail _ _ _ _) _ _ _ | show DEnd _ _ _ _ _ _ _ _ _ _ _ _ _ _ | show wpAny _ _ (setItem _ _ _) _ _ _ | show wpAny _ _ (getItem _ _) _ _ _ | show LCg.CompSrc _ _ _ _ _ _ _ _ _ _ _ _ _ _ | show LCg.CompEnd _ _ _ _ _ _ _ _ _ _ _ _ _ _ | show wpAny _ _ (eval (Expr.ListComp _ _ _ _) _) _ _ _ | show wpAny _ _ (eval (Expr.DictComp _ _ _ _ _) _) _ _ _ | show wpAny _ _ (exec (Stmt.Assign _ (Expr.ListComp _ _ _ _) _) _) _ _ _ | show wpAny _ _ (exec (Stmt.Assign _ (Expr.DictComp _ _ _ _ _) _) _) _ _ _ | show _ ≤ _)); (first | walk1 | (dsimp only; walk1)) <;> (try dsimp only)) | (leave1; try dsimp only) | fail "no step"))
    (rename News _ _ _ _ => lN3); (rename Fr _ _ _ _ => lF3)
    obtain ⟨aA, e⟩ := nmA0 lN3; subst e
    obtain ⟨oA, e⟩ := nmO0 lN3; subst e
    rename ∀ p ∈ (ld, lstC (List.map HE.ref esD) cD) :: (xd, instObj 252 dd) :: (dd, hDict w ld td) :: (lr, lstC (List.map HE.ref esR) cR) :: (xr, instObj 252 dr) :: (dr, hDict w lr tr) :: (la, lstC (List.map HE.ref lsL) cL) :: (le, lstC (List.map HE.ref lsE) cE) :: (TT' ++ [(LL + 1 + 1 + 1, o1), (LL + 1 + 1, o2), (LL + 1, o3), (P, lstC (ps.map PE.ref) k0)]), _ => lA
    rename @LT.lt Nat _ LL aA => lLA
    rename Obj.IsDictOf _ oA _ => hA0
    have ndA : DistL ((LL + 1 + 1 + 1, o1) :: (LL + 1 + 1, o2) :: (xr, instObj 252 dr) :: (dr, hDict w lr tr) :: (lr, lstC (List.map HE.ref esR) cR) :: (LL + 1, o3) :: (aA, oA) :: (xd, instObj 252 dd) :: (dd, hDict w ld td) :: (ld, lstC (List.map HE.ref esD) cD) :: (la, lstC (List.map HE.ref lsL) cL) :: (TT' ++ [(P, lstC (ps.map PE.ref) k0), (le, lstC (List.map HE.ref lsE) cE)])) := dstB (A := (LL + 1 + 1 + 1, o1) :: (LL + 1 + 1, o2) :: (xr, instObj 252 dr) :: (dr, hDict w lr tr) :: (lr, lstC (List.map HE.ref esR) cR) :: (LL + 1, o3) :: (aA, oA) :: (xd, instObj 252 dd) :: (dd, hDict w ld td) :: (ld, lstC (List.map HE.ref esD) cD) :: (la, lstC (List.map HE.ref lsL) cL) :: (TT' ++ [(P, lstC (ps.map PE.ref) k0), (le, lstC (List.map HE.ref lsE) cE)])) [[(aA, oA)], [(ld, lstC (List.map HE.ref esD) cD)], [(xd, instObj 252 dd)], [(dd, hDict w ld td)], [(lr, lstC (List.map HE.ref esR) cR)], [(xr, instObj 252 dr)], [(dr, hDict w lr tr)], [(la, lstC (List.map HE.ref lsL) cL)], [(le, lstC (List.map HE.ref lsE) cE)], TT', [(LL + 1 + 1 + 1, o1)], [(LL + 1 + 1, o2)], [(LL + 1, o3)], [(P, lstC (ps.map PE.ref) k0)]] 8 [10, 11, 5, 6, 4, 12, 0, 2, 3, 1, 7, 9, 13] 13 [0, 1, 2, 3, 4, 5, 6, 7, 8, 9, 10, 11, 12] rfl rfl (ndC.cons (p := (aA, oA)) lA)
    walk1
    (repeat' (first | (k_unfold; (try dsimp only)) | ((fail_if_success (with_reducible first | show wpAny _ _ (PySem.call (Value.ref _) _) _ _ _ | show wpAny _ _ (pyIter (Value.ref _)) _ _ _ | show wpAny _ _ (exec (Stmt.For _ _ _ _ _) _) _ _ _ | show LCg.CompSrc _ _ _ _ _ _ _ _ _ _ _ _ _ _ | show LCg.CompEnd _ _ _ _ _ _ _ _ _ _ _ _ _ _ | show wpAny _ _ (eval (Expr.ListComp _ _ _ _) _) _ _ _ | show wpAny _ _ (eval (Expr.DictComp _ _ _ _ _) _) _ _ _ | show wpAny _ _ (exec (Stmt.Assign _ (Expr.ListComp _ _ _ _) _) _) _ _ _ | show wpAny _ _ (exec (Stmt.Assign _ (Expr.DictComp _ _ _ _ _) _) _) _ _ _ | show _ ≤ _)); (first | walk1 | (dsimp only; walk1)) <;> (try dsimp only)) | (leave1; try dsimp only) | fail "no step"))
    (rename IsRange _ _ _ _ _ _ _ _ => lR5); (rename Fr _ _ _ _ => lF5); (rename News _ _ _ _ => lN5)
    with_unfolding_all refine iter_rangeUnr (n := 8) (by rfl) lR5 (by decide) (by decide) lF5 (cb_drop (news := (LL + 1 + 1 + 1, o1) :: (LL + 1 + 1, o2) :: (xr, instObj 252 dr) :: (dr, hDict w lr tr) :: (lr, lstC (List.map HE.ref esR) cR) :: (LL + 1, o3) :: (aA, oA) :: (xd, instObj 252 dd) :: (dd, hDict w ld td) :: (ld, lstC (List.map HE.ref esD) cD) :: (la, lstC (List.map HE.ref lsL) cL) :: (TT' ++ [(P, lstC (ps.map PE.ref) k0), (le, lstC (List.map HE.ref lsE) cE)])) lN5 ?xx) ?_
    case xx => exact (subB [[(aA, oA)], [(ld, lstC (List.map HE.ref esD) cD)], [(xd, instObj 252 dd)], [(dd, hDict w ld td)], [(lr, lstC (List.map HE.ref esR) cR)], [(xr, instObj 252 dr)], [(dr, hDict w lr tr)], [(la, lstC (List.map HE.ref lsL) cL)], [(le, lstC (List.map HE.ref lsE) cE)], TT', [(LL + 1 + 1 + 1, o1)], [(LL + 1 + 1, o2)], [(LL + 1, o3)], [(P, lstC (ps.map PE.ref) k0)]] 8 [10, 11, 5, 6, 4, 12, 0, 2, 3, 1, 7, 9, 13] 13 [0, 1, 2, 3, 4, 5, 6, 7, 8, 9, 10, 11, 12] rfl : ∀ q ∈ (LL + 1 + 1 + 1, o1) :: (LL + 1 + 1, o2) :: (xr, instObj 252 dr) :: (dr, hDict w lr tr) :: (lr, lstC (List.map HE.ref esR) cR) :: (LL + 1, o3) :: (aA, oA) :: (xd, instObj 252 dd) :: (dd, hDict w ld td) :: (ld, lstC (List.map HE.ref esD) cD) :: (la, lstC (List.map HE.ref lsL) cL) :: (TT' ++ [(P, lstC (ps.map PE.ref) k0), (le, lstC (List.map HE.ref lsE) cE)]), q ∈ (aA, oA) :: (ld, lstC (List.map HE.ref esD) cD) :: (xd, instObj 252 dd) :: (dd, hDict w ld td) :: (lr, lstC (List.map HE.ref esR) cR) :: (xr, instObj 252 dr) :: (dr, hDict w lr tr) :: (la, lstC (List.map HE.ref lsL) cL) :: (le, lstC (List.map HE.ref lsE) cE) :: (TT' ++ [(LL + 1 + 1 + 1, o1), (LL + 1 + 1, o2), (LL + 1, o3), (P, lstC (ps.map PE.ref) k0)]))
    intro i6 l6
    have nd6 : ∀ oi : Obj, DistL ((LL + 1 + 1 + 1, o1) :: (LL + 1 + 1, o2) :: (xr, instObj 252 dr) :: (dr, hDict w lr tr) :: (lr, lstC (List.map HE.ref esR) cR) :: (LL + 1, o3) :: (aA, oA) :: (xd, instObj 252 dd) :: (dd, hDict w ld td) :: (ld, lstC (List.map HE.ref esD) cD) :: (la, lstC (List.map HE.ref lsL) cL) :: (([] : List IE).map IE.obj ++ (TT' ++ [(P, lstC (ps.map PE.ref) k0), (le, lstC (List.map HE.ref lsE) cE), (i6, oi)]))) := fun oi => dstB (A := (LL + 1 + 1 + 1, o1) :: (LL + 1 + 1, o2) :: (xr, instObj 252 dr) :: (dr, hDict w lr tr) :: (lr, lstC (List.map HE.ref esR) cR) :: (LL + 1, o3) :: (aA, oA) :: (xd, instObj 252 dd) :: (dd, hDict w ld td) :: (ld, lstC (List.map HE.ref esD) cD) :: (la, lstC (List.map HE.ref lsL) cL) :: (TT' ++ [(P, lstC (ps.map PE.ref) k0), (le, lstC (List.map HE.ref lsE) cE), (i6, oi)])) [[(i6, oi)], [(LL + 1 + 1 + 1, o1)], [(LL + 1 + 1, o2)], [(xr, instObj 252 dr)], [(dr, hDict w lr tr)], [(lr, lstC (List.map HE.ref esR) cR)], [(LL + 1, o3)], [(aA, oA)], [(xd, instObj 252 dd)], [(dd, hDict w ld td)], [(ld, lstC (List.map HE.ref esD) cD)], [(la, lstC (List.map HE.ref lsL) cL)], TT', [(P, lstC (ps.map PE.ref) k0)], [(le, lstC (List.map HE.ref lsE) cE)]] 0 [1, 2, 3, 4, 5, 6, 7, 8, 9, 10, 11, 12, 13, 14] 14 [0, 1, 2, 3, 4, 5, 6, 7, 8, 9, 10, 11, 12, 13] rfl rfl (ndA.cons (p := (i6, oi)) l6)
    refine range_ind (AfK w ps k0 s1 tk0 td tr P LL xd dd ld xr dr lr la le i6 aA o3 esD esR lsL lsE cD cR cL cE TT') ?v0 ?v1 _ _ _ _ (by decide) ?vi
    case vi => exact ⟨rfl, rfl, rfl, rfl, rfl, o1, o2, oA, none, none, [], [], rfl, nd6, c1, c2, hA0, Nat.le_refl _, (fun _ h => nomatch h), fun _ h => nomatch h⟩
    case v1 =>
      rintro i m3 n3 hi ⟨b1, b2, b3, b4, b5, o1', o2', oA', u1, u2, kA, ds, rfl, ndD, d1, d2, hA, lkA, hat, hfar⟩ tt h3 tk3 F3 N3
      replace F3 := see6 F3 (x1 := "i") (x2 := "steps") (x3 := "roads") (x4 := "doors") (x5 := "laid") (x6 := "after") rfl b1 b2 b3 b4 b5
      have mD : ∀ {es : List HE}, (∀ e ∈ es, e.obj ∈ TT') → ∀ e ∈ es, e.obj ∈ ds.map IE.obj ++ (TT' ++ [(P, lstC (ps.map PE.ref) k0), (le, lstC (List.map HE.ref lsE) cE), (i6, (itR (0 + ((i + 1 : Nat) : Int)) ((8 : Nat) - ((i + 1 : Nat) : Int))))]) := fun h e he => List.mem_append_right _ (List.mem_append_left _ (h e he))
      refine lbTurn (tl := ds.map IE.obj ++ (TT' ++ [(P, lstC (ps.map PE.ref) k0), (le, lstC (List.map HE.ref lsE) cE), (i6, (itR (0 + ((i + 1 : Nat) : Int)) ((8 : Nat) - ((i + 1 : Nat) : Int))))])) rfl hi BB XX TT hC (by (first | lia | omega)) (by (first | lia | omega)) hpr F3 (cb_drop (news := (LL + 1 + 1 + 1, o1') :: (LL + 1 + 1, o2') :: (xr, instObj 252 dr) :: (dr, hDict w lr tr) :: (lr, lstC (List.map HE.ref esR) cR) :: (LL + 1, o3) :: (aA, oA') :: (xd, instObj 252 dd) :: (dd, hDict w ld td) :: (ld, lstC (List.map HE.ref esD) cD) :: (la, lstC (List.map HE.ref lsL) cL) :: (ds.map IE.obj ++ (TT' ++ [(P, lstC (ps.map PE.ref) k0), (le, lstC (List.map HE.ref lsE) cE), (i6, (itR (0 + ((i + 1 : Nat) : Int)) ((8 : Nat) - ((i + 1 : Nat) : Int))))]))) N3 ?y1) (ndD _) d1 d2 c3 (mD hD) (mD hR) (mD hL) tD tR tL hA (Nat.le_trans lkA (Nat.le_of_lt hi)) ?_
      case y1 => exact (subB [[(i6, (itR (0 + ((i + 1 : Nat) : Int)) ((8 : Nat) - ((i + 1 : Nat) : Int))))], [(LL + 1 + 1 + 1, o1')], [(LL + 1 + 1, o2')], [(xr, instObj 252 dr)], [(dr, hDict w lr tr)], [(lr, lstC (List.map HE.ref esR) cR)], [(LL + 1, o3)], [(aA, oA')], [(xd, instObj 252 dd)], [(dd, hDict w ld td)], [(ld, lstC (List.map HE.ref esD) cD)], [(la, lstC (List.map HE.ref lsL) cL)], ds.map IE.obj, TT', [(P, lstC (ps.map PE.ref) k0)], [(le, lstC (List.map HE.ref lsE) cE)]] 0 [1, 2, 3, 4, 5, 6, 7, 8, 9, 10, 11, 12, 13, 14, 15] 15 [0, 1, 2, 3, 4, 5, 6, 7, 8, 9, 10, 11, 12, 13, 14] rfl : ∀ q ∈ (LL + 1 + 1 + 1, o1') :: (LL + 1 + 1, o2') :: (xr, instObj 252 dr) :: (dr, hDict w lr tr) :: (lr, lstC (List.map HE.ref esR) cR) :: (LL + 1, o3) :: (aA, oA') :: (xd, instObj 252 dd) :: (dd, hDict w ld td) :: (ld, lstC (List.map HE.ref esD) cD) :: (la, lstC (List.map HE.ref lsL) cL) :: (ds.map IE.obj ++ (TT' ++ [(P, lstC (ps.map PE.ref) k0), (le, lstC (List.map HE.ref lsE) cE), (i6, (itR (0 + ((i + 1 : Nat) : Int)) ((8 : Nat) - ((i + 1 : Nat) : Int))))])), q ∈ (i6, (itR (0 + ((i + 1 : Nat) : Int)) ((8 : Nat) - ((i + 1 : Nat) : Int)))) :: (LL + 1 + 1 + 1, o1') :: (LL + 1 + 1, o2') :: (xr, instObj 252 dr) :: (dr, hDict w lr tr) :: (lr, lstC (List.map HE.ref esR) cR) :: (LL + 1, o3) :: (aA, oA') :: (xd, instObj 252 dd) :: (dd, hDict w ld td) :: (ld, lstC (List.map HE.ref esD) cD) :: (la, lstC (List.map HE.ref lsL) cL) :: (ds.map IE.obj ++ (TT' ++ [(P, lstC (ps.map PE.ref) k0), (le, lstC (List.map HE.ref lsE) cE)])))
      intro h4 tk4 m4 o1n o2n oAn D oD kD u1n u2n w1 w2 w3 w4 w5 F4 N4 nd4 d1n d2n lD hDd hkD hAn
      have hoff := (dstB (A := (i6, (itR (0 + ((i + 1 : Nat) : Int)) ((8 : Nat) - ((i + 1 : Nat) : Int)))) :: (LL + 1 + 1 + 1, o1n) :: (LL + 1 + 1, o2n) :: (xr, instObj 252 dr) :: (dr, hDict w lr tr) :: (lr, lstC (List.map HE.ref esR) cR) :: (LL + 1, o3) :: (aA, oAn) :: (xd, instObj 252 dd) :: (dd, hDict w ld td) :: (ld, lstC (List.map HE.ref esD) cD) :: (la, lstC (List.map HE.ref lsL) cL) :: (D, oD) :: (ds.map IE.obj ++ (TT' ++ [(P, lstC (ps.map PE.ref) k0), (le, lstC (List.map HE.ref lsE) cE)]))) [[(D, oD)], [(LL + 1 + 1 + 1, o1n)], [(LL + 1 + 1, o2n)], [(xr, instObj 252 dr)], [(dr, hDict w lr tr)], [(lr, lstC (List.map HE.ref esR) cR)], [(LL + 1, o3)], [(aA, oAn)], [(xd, instObj 252 dd)], [(dd, hDict w ld td)], [(ld, lstC (List.map HE.ref esD) cD)], [(la, lstC (List.map HE.ref lsL) cL)], ds.map IE.obj, TT', [(P, lstC (ps.map PE.ref) k0)], [(le, lstC (List.map HE.ref lsE) cE)], [(i6, (itR (0 + ((i + 1 : Nat) : Int)) ((8 : Nat) - ((i + 1 : Nat) : Int))))]] 15 [16, 1, 2, 3, 4, 5, 6, 7, 8, 9, 10, 11, 0, 12, 13, 14] 16 [0, 1, 2, 3, 4, 5, 6, 7, 8, 9, 10, 11, 12, 13, 14, 15] rfl rfl nd4).hd
      refine ⟨h4, tk4, m4, (LL + 1 + 1 + 1, o1n) :: (LL + 1 + 1, o2n) :: (xr, instObj 252 dr) :: (dr, hDict w lr tr) :: (lr, lstC (List.map HE.ref esR) cR) :: (LL + 1, o3) :: (aA, oAn) :: (xd, instObj 252 dd) :: (dd, hDict w ld td) :: (ld, lstC (List.map HE.ref esD) cD) :: (la, lstC (List.map HE.ref lsL) cL) :: (D, oD) :: (ds.map IE.obj ++ (TT' ++ [(P, lstC (ps.map PE.ref) k0), (le, lstC (List.map HE.ref lsE) cE)])), rfl, F4, cb_drop (news := (i6, (itR (0 + ((i + 1 : Nat) : Int)) ((8 : Nat) - ((i + 1 : Nat) : Int)))) :: (LL + 1 + 1 + 1, o1n) :: (LL + 1 + 1, o2n) :: (xr, instObj 252 dr) :: (dr, hDict w lr tr) :: (lr, lstC (List.map HE.ref esR) cR) :: (LL + 1, o3) :: (aA, oAn) :: (xd, instObj 252 dd) :: (dd, hDict w ld td) :: (ld, lstC (List.map HE.ref esD) cD) :: (la, lstC (List.map HE.ref lsL) cL) :: (D, oD) :: (ds.map IE.obj ++ (TT' ++ [(P, lstC (ps.map PE.ref) k0), (le, lstC (List.map HE.ref lsE) cE)]))) N4 (subB [[(D, oD)], [(LL + 1 + 1 + 1, o1n)], [(LL + 1 + 1, o2n)], [(xr, instObj 252 dr)], [(dr, hDict w lr tr)], [(lr, lstC (List.map HE.ref esR) cR)], [(LL + 1, o3)], [(aA, oAn)], [(xd, instObj 252 dd)], [(dd, hDict w ld td)], [(ld, lstC (List.map HE.ref esD) cD)], [(la, lstC (List.map HE.ref lsL) cL)], ds.map IE.obj, TT', [(P, lstC (ps.map PE.ref) k0)], [(le, lstC (List.map HE.ref lsE) cE)], [(i6, (itR (0 + ((i + 1 : Nat) : Int)) ((8 : Nat) - ((i + 1 : Nat) : Int))))]] 15 [16, 1, 2, 3, 4, 5, 6, 7, 8, 9, 10, 11, 0, 12, 13, 14] 16 [0, 1, 2, 3, 4, 5, 6, 7, 8, 9, 10, 11, 12, 13, 14, 15] rfl : ∀ q ∈ (i6, (itR (0 + ((i + 1 : Nat) : Int)) ((8 : Nat) - ((i + 1 : Nat) : Int)))) :: (LL + 1 + 1 + 1, o1n) :: (LL + 1 + 1, o2n) :: (xr, instObj 252 dr) :: (dr, hDict w lr tr) :: (lr, lstC (List.map HE.ref esR) cR) :: (LL + 1, o3) :: (aA, oAn) :: (xd, instObj 252 dd) :: (dd, hDict w ld td) :: (ld, lstC (List.map HE.ref esD) cD) :: (la, lstC (List.map HE.ref lsL) cL) :: (D, oD) :: (ds.map IE.obj ++ (TT' ++ [(P, lstC (ps.map PE.ref) k0), (le, lstC (List.map HE.ref lsE) cE)])), q ∈ (D, oD) :: (LL + 1 + 1 + 1, o1n) :: (LL + 1 + 1, o2n) :: (xr, instObj 252 dr) :: (dr, hDict w lr tr) :: (lr, lstC (List.map HE.ref esR) cR) :: (LL + 1, o3) :: (aA, oAn) :: (xd, instObj 252 dd) :: (dd, hDict w ld td) :: (ld, lstC (List.map HE.ref esD) cD) :: (la, lstC (List.map HE.ref lsL) cL) :: (ds.map IE.obj ++ (TT' ++ [(P, lstC (ps.map PE.ref) k0), (le, lstC (List.map HE.ref lsE) cE), (i6, (itR (0 + ((i + 1 : Nat) : Int)) ((8 : Nat) - ((i + 1 : Nat) : Int))))]))), hoff, w1, w2, w3, w4, w5, o1n, o2n, oAn, u1n, u2n, stored kA (key i) (.ref D), ((⟨D, oD, kD⟩ : IE) :: ds), rfl,
        fun oi => (dstB (A := (LL + 1 + 1 + 1, o1n) :: (LL + 1 + 1, o2n) :: (xr, instObj 252 dr) :: (dr, hDict w lr tr) :: (lr, lstC (List.map HE.ref esR) cR) :: (LL + 1, o3) :: (aA, oAn) :: (xd, instObj 252 dd) :: (dd, hDict w ld td) :: (ld, lstC (List.map HE.ref esD) cD) :: (la, lstC (List.map HE.ref lsL) cL) :: (D, oD) :: (ds.map IE.obj ++ (TT' ++ [(P, lstC (ps.map PE.ref) k0), (le, lstC (List.map HE.ref lsE) cE), (i6, (itR (0 + ((i + 1 : Nat) : Int)) ((8 : Nat) - ((i + 1 : Nat) : Int))))]))) [[(D, oD)], [(LL + 1 + 1 + 1, o1n)], [(LL + 1 + 1, o2n)], [(xr, instObj 252 dr)], [(dr, hDict w lr tr)], [(lr, lstC (List.map HE.ref esR) cR)], [(LL + 1, o3)], [(aA, oAn)], [(xd, instObj 252 dd)], [(dd, hDict w ld td)], [(ld, lstC (List.map HE.ref esD) cD)], [(la, lstC (List.map HE.ref lsL) cL)], ds.map IE.obj, TT', [(P, lstC (ps.map PE.ref) k0)], [(le, lstC (List.map HE.ref lsE) cE)], [(i6, (itR (0 + ((i + 1 : Nat) : Int)) ((8 : Nat) - ((i + 1 : Nat) : Int))))]] 16 [1, 2, 3, 4, 5, 6, 7, 8, 9, 10, 11, 0, 12, 13, 14, 15] 16 [0, 1, 2, 3, 4, 5, 6, 7, 8, 9, 10, 11, 12, 13, 14, 15] rfl rfl nd4).congr (by simp only [List.map_cons, List.map_append, List.map_nil, List.append_assoc, List.cons_append]), d1n, d2n, hAn, Nat.le_trans (stored_length_le _ _ _) (Nat.succ_le_succ lkA), fun j hj => ?_, fun e he => ?_⟩
      · by_cases hji : j = i
        · subst hji
          exact ⟨⟨D, oD, kD⟩, List.mem_cons_self .., by rw [look_stored, if_pos rfl], hDd, hkD⟩
        · obtain ⟨e, h1, h2, h3, h4⟩ := hat j (by (first | lia | omega))
          exact ⟨e, List.mem_cons_of_mem _ h1, by rw [look_stored, if_neg (fun q => hji (key_inj j (by (first | lia | omega)) i hi q))]; exact h2, h3, h4⟩
      · rcases List.mem_cons.mp he with rfl | he
        · exact ⟨lD, hDd⟩
        · exact hfar e he
    case v0 =>
      rintro m3 n3 ⟨b1, b2, b3, b4, b5, o1', o2', oA', u1, u2, kA, ds, rfl, ndD, d1, d2, hA, lkA, hat, hfar⟩ h3 tk3 F3 N3
      replace F3 := see "after" _ F3 b5
      try dsimp only
      (repeat' (first | (k_unfold; (try dsimp only)) | ((fail_if_success (with_reducible first | show wpAny _ _ (PySem.call (Value.ref _) _) _ _ _ | show wpAny _ _ (pyIter (Value.ref _)) _ _ _ | show wpAny _ _ (exec (Stmt.For _ _ _ _ _) _) _ _ _ | show LCg.CompSrc _ _ _ _ _ _ _ _ _ _ _ _ _ _ | show LCg.CompEnd _ _ _ _ _ _ _ _ _ _ _ _ _ _ | show wpAny _ _ (eval (Expr.ListComp _ _ _ _) _) _ _ _ | show wpAny _ _ (eval (Expr.DictComp _ _ _ _ _) _) _ _ _ | show wpAny _ _ (exec (Stmt.Assign _ (Expr.ListComp _ _ _ _) _) _) _ _ _ | show wpAny _ _ (exec (Stmt.Assign _ (Expr.DictComp _ _ _ _ _) _) _) _ _ _ | show _ ≤ _)); (first | walk1 | (dsimp only; walk1)) <;> (try dsimp only)) | (leave1; try dsimp only) | fail "no step"))
      (rename Fr h₀ L _ _ => kF1); (rename News h₀ L _ _ => kN1)
      have hsp := DistL.split2 (a := [(LL + 1 + 1 + 1, o1'), (LL + 1 + 1, o2'), (xr, instObj 252 dr), (dr, hDict w lr tr), (lr, lstC (List.map HE.ref esR) cR), (LL + 1, o3), (aA, oA'), (xd, instObj 252 dd), (dd, hDict w ld td), (ld, lstC (List.map HE.ref esD) cD), (la, lstC (List.map HE.ref lsL) cL)]) (ndD o3)
      have hR := rests (news := [(P, lstC (ps.map PE.ref) k0)]) (nn := (aA, oA') :: (ds.map IE.obj ++ [(P, lstC (ps.map PE.ref) k0)])) (cb_drop (news := (aA, oA') :: (ds.map IE.obj ++ [(P, lstC (ps.map PE.ref) k0)])) kN1 (subB [[(LL + 1 + 1 + 1, o1')], [(LL + 1 + 1, o2')], [(xr, instObj 252 dr)], [(dr, hDict w lr tr)], [(lr, lstC (List.map HE.ref esR) cR)], [(LL + 1, o3)], [(aA, oA')], [(xd, instObj 252 dd)], [(dd, hDict w ld td)], [(ld, lstC (List.map HE.ref esD) cD)], [(la, lstC (List.map HE.ref lsL) cL)], ds.map IE.obj, TT', [(P, lstC (ps.map PE.ref) k0)], [(le, lstC (List.map HE.ref lsE) cE)]] 13 [6, 11] 14 [0, 1, 2, 3, 4, 5, 6, 7, 8, 9, 10, 11, 12, 13] rfl : ∀ q ∈ (aA, oA') :: (ds.map IE.obj ++ [(P, lstC (ps.map PE.ref) k0)]), q ∈ (LL + 1 + 1 + 1, o1') :: (LL + 1 + 1, o2') :: (xr, instObj 252 dr) :: (dr, hDict w lr tr) :: (lr, lstC (List.map HE.ref esR) cR) :: (LL + 1, o3) :: (aA, oA') :: (xd, instObj 252 dd) :: (dd, hDict w ld td) :: (ld, lstC (List.map HE.ref esD) cD) :: (la, lstC (List.map HE.ref lsL) cL) :: (ds.map IE.obj ++ (TT' ++ [(P, lstC (ps.map PE.ref) k0), (le, lstC (List.map HE.ref lsE) cE)])))) N hRs F3
      refine hret2 LL _ (((aA, oA') :: ds.map IE.obj) ++ ((P, lstC (ps.map PE.ref) k0) :: ps.map PE.obj)) _ _ (under_assoc hU) kF1 ?_ ⟨aA, oA', kA, ds, rfl, rfl, hA, ⟨hat, fun e he => Nat.lt_trans l54 (hfar e he).1⟩, Nat.lt_trans l54 lLA, fun e he => ⟨?_, (hfar e he).2⟩⟩
      · simp only [List.append_assoc, List.cons_append, List.nil_append] at hR ⊢
        exact hR
      · exact hsp (aA, oA') (by (with_reducible repeat' first | exact List.mem_cons_self .. | refine List.mem_cons_of_mem _ ?_)) e.obj (List.mem_append_left _ (List.mem_map_of_mem he))
end
end
theorem offLL : True := by
  w_top off
  exact True.intro
section
open PySem PySem.W PySem.Spec PySem.Calls PyProof.Rows
section
variable {w : World} {p : Program} {loose : List PySem.Str} {mean : ExcName → Option Value} {mg mb : PySem.Str → Option Value}
section
variable {A₀ A : Around} {s : Shared} {base h₀ : Heap} {outer : List Env} {L : Addr} {m : PySem.Str → Option Value} {env : Env} {news rest : Led} {K : Frag}
  {R : Result → Shared → Prop} {name qual : PySem.Str} {params : Arguments} {body : List Stmt} {scope : Scope} {dV kV doc pm cdv ct oc : Value} {an od : Option Addr} {osl : Array (Option Value)} {f : Addr} {args : Args} {binds : List (PySem.Str × Value)} {prog : Program}
theorem code_defCRS (B : Below A₀ base outer h₀) (F : Fr h₀ L s.heap m) (X₀ : K.In h₀) (N : News h₀ L s.heap (news ++ rest)) (ap : Apart news rest) (T : Top p loose mean mg mb h₀) (hA : A.frames = some (env :: outer)) (hf : env.frame = some L) (hke : env.scope.kind = .function)
    (ho : K.lookup f = some ⟨oc, od, .func (fnOf name qual params body scope dV kV doc pm an cdv ct), osl⟩) (hcd : codeIn K cdv qual = true) (hroom : A.depth < recursionLimit)
    (hbind : BindsTo s (fnOf name qual params body scope dV kV doc pm an cdv ct) args binds) (hkind : (binds.all fun y => scope.names.lookup y.1 == some .local || scope.names.lookup y.1 == some .cell) = true)
    (hnd : ((cellsFrom 0 scope.names []).map (·.1)).Nodup)
    (h : ∀ g L' h₁ tk cells, Fr h₀ L g m → Fr g L' h₁ (bindL (envOfC qual scope L' f cdv).kindOf binds fun _ => none) → News g L' h₁ (cells ++ news) →
      CellsAre (bindC (envOfC qual scope L' f cdv).kindOf binds fun _ => none) (cellsFrom (L' + 1) scope.names []) cells → Below A base (env :: outer) g → K.In g → Top p loose mean mg mb g → (∀ p ∈ news, p.1 < L') → Rests g rest → Under L' (news ++ rest) → h₀.StaysIn g →
      wpAny (model prog w) (A.deeper (envOfC qual scope L' f cdv)) (execs body (envOfC qual scope L' f cdv))
        (fun fl s' => LeaveK h₀ L m g R (match fl with | .ret v => v | _ => .none) s')
        (fun e s' => wpAny (model prog w) (A.deeper (envOfC qual scope L' f cdv)) (leaving (envOfC qual scope L' f cdv) e) (fun _ s'' => R (.error e) s'') (fun e' s'' => R (.error e') s'') s')
        { s with heap := h₁, toks := tk })
    (hco : scope.isCoroutine = false) (hgen : scope.isGenerator = false) (hk : scope.kind = .function) : codeAny (model prog w) A (.call (.ref f) args) R s :=
  enter_cells B F (fun q hq => N q (List.mem_append_left _ hq)) (fun q hq => N q (List.mem_append_right _ hq)) ap T.nolimit hA hf hke ((X₀.keeps F.keep) _ _ ho) rfl (codeRec_of (X₀.keeps F.keep) hcd) hroom hbind (kindsX hkind) hnd
    (fun g L' h₁ tk cells FG F' N' Y B' st l r u => h g L' h₁ tk cells FG F' N' Y B' (X₀.keeps st) (T.keeps st) l r u st) hco hgen hk
end
theorem ints_some : ∀ {vs : List Value}, (∀ v ∈ vs, ∃ n t, v = Value.int n t) → ∃ ns, IntsAre vs ns
  | [], _ => ⟨[], .nil⟩
  | v :: r, h => by
    obtain ⟨n, t, rfl⟩ := h v (List.mem_cons_self ..)
    obtain ⟨ns, hn⟩ := ints_some fun x hx => h x (List.mem_cons_of_mem _ hx)
    exact ⟨n :: ns, .cons n t hn⟩
theorem ints_each : ∀ {vs : List Value} {ns : List Int}, IntsAre vs ns → ∀ v ∈ vs, ∃ n t, v = Value.int n t
  | _, _, .nil, v, h => nomatch h
  | _, _, .cons n t r, v, h => by
    rcases List.mem_cons.mp h with rfl | h
    · exact ⟨n, t, rfl⟩
    · exact ints_each r v h
theorem pick_ints {vs : List Value} {ns : List Int} (h : IntsAre vs ns) (lo hi st : Option Int) : ∃ ms, IntsAre (slicePick vs.toArray lo hi st).toList ms := ints_some fun v hv => by
  unfold slicePick at hv
  obtain ⟨i, _, hi⟩ := List.mem_filterMap.mp (by simpa using hv)
  exact ints_each h v (List.mem_of_getElem? (by simpa using hi))
set_option maxHeartbeats 4000000 in
theorem lcells {sc : List Int} {vs : List Value} {ax : Addr} (hI : IntsAre vs sc) (hn : vs.length ≤ 63)
    {dp un : Nat} {gd : Option (List Code)} {cn : PySem.Str} {cs : Scope} {fa : Addr} {ccd : Value} {cl : List (PySem.Str × Addr)} {outer : List Env} {A₀ : Around} {base h₀ : Heap} {L : Addr} {m : PySem.Str → Option Value} {s : Shared} {rest : Led} {Q E : Value → Shared → Prop}
    (B : Below A₀ base outer h₀) (F : Fr h₀ L s.heap m) (X : (hd.heap_1 w.params).In h₀) (N : News h₀ L s.heap rest) (hl : h₀.IsList ax vs.toArray) (T : Top p loose mean mg mb h₀) (hk : cs.kind = .function) (hC : Codes base) (hd : dp + 100 < recursionLimit) (hu : un + 8 * 100 < cLine)
    (ret : ∀ R cv cns k h' tk', (∀ q ∈ rest, @Ne Nat q.1 R) → Fr h₀ L h' m → News h₀ L h' ((R, lstC cv k) :: rest) → IntsAre cv cns → cns.length = 6 → Q (.ref R) { s with heap := h', toks := tk' }) :
    wpAny (model PySem.Challenge.rw_wy0040_01.row.toRowW.prog w) (ktrTop dp un gd cn cs L fa ccd cl outer) (call (.ref 261) [.ref ax]) Q E s := by
  revert X
  k_fill
  intro X
  refine wpAny_call ?_
  have ap : Apart [] rest := fun _ h => nomatch h
  have N0 : News h₀ L s.heap ([] ++ rest) := N
  have hret := ret
  k_dflt (refine' code_defCRS ?k1 ?k2 ?k3 N0 ap ?k5 ?kA ?kF ?kK ?k6 ?k7 ?k8 ?k9 ?kB ?kD ?_ ?c2 ?c3 ?c4; (case kA => exact rfl); (case kF => exact rfl); (case kK => assumption); (case k1 => k_asm); (case k2 => k_asm); (case k3 => k_asm); (case k5 => k_asm); (case k6 => k_is); (case k7 => k_is); (case k8 => (first | exact room1 (by assumption) rfl | exact room0 (by assumption) | ktr_room)); (case k9 => exact BindsTo.of_eq rfl); (case kB => exact rfl); (case kD => decide +kernel); (case c2 => exact rfl); (case c3 => exact rfl); (case c4 => exact rfl); k_whole; intro g' L' h' tk' cells' FG' F' N' Y' B' X' T' l1 R' U' SI'; k_cells Y'; (try simp only [List.cons_append, List.nil_append] at N'); (try dsimp only); (try k_lift B'); (try k_fold))
  rename_i o1 o2 e1 e2
  have c1 : o1.data = .cell none := by rw [e1]; kernel_rfl
  have c2 : o2.data = .cell (some (.ref ax)) := by rw [e2]; kernel_rfl
  clear e1 e2
  have hlg : g'.IsList ax vs.toArray := hl.at fun o e => SI' _ _ e
  (repeat' (first | (k_unfold; (try dsimp only)) | ((fail_if_success (with_reducible first | show wpAny _ _ (PySem.call (Value.ref _) _) _ _ _ | show wpAny _ _ (pyIter (Value.ref _)) _ _ _ | show wpAny _ _ (exec (Stmt.For _ _ _ _ _) _) _ _ _ | show wpAny _ _ (subscriptTail _ _ _ _) _ _ _ | show DEnd _ _ _ _ _ _ _ _ _ _ _ _ _ _ | show wpAny _ _ (setItem _ _ _) _ _ _ | show wpAny _ _ (getItem _ _) _ _ _ | show LCg.CompSrc _ _ _ _ _ _ _ _ _ _ _ _ _ _ | show LCg.CompEnd _ _ _ _ _ _ _ _ _ _ _ _ _ _ | show wpAny _ _ (eval (Expr.ListComp _ _ _ _) _) _ _ _ | show wpAny _ _ (eval (Expr.DictComp _ _ _ _ _) _) _ _ _ | show wpAny _ _ (exec (Stmt.Assign _ (Expr.ListComp _ _ _ _) _) _) _ _ _ | show wpAny _ _ (exec (Stmt.Assign _ (Expr.DictComp _ _ _ _ _) _) _) _ _ _ | show _ ≤ _)); (first | walk1 | (dsimp only; walk1)) <;> (try dsimp only)) | (leave1; try dsimp only) | fail "no step"))
  (rename Fr _ _ _ _ => lF1); (rename News _ _ _ _ => lN1)
  obtain ⟨D0, e⟩ := nmA0 lN1; subst e
  refine' LCg.ListComp_U lF1 ?q1 ?q2 ?q3 ?q4 ?q5 ?q6
  case q1 => exact rfl
  case q2 => decide
  case q3 => exact rfl
  case q4 => decide
  case q5 => exact rfl
  (repeat' (first | (k_unfold; (try dsimp only)) | ((fail_if_success (with_reducible first | show wpAny _ _ (PySem.call (Value.ref _) _) _ _ _ | show wpAny _ _ (pyIter (Value.ref _)) _ _ _ | show wpAny _ _ (exec (Stmt.For _ _ _ _ _) _) _ _ _ | show LCg.CompSrc _ _ _ _ _ _ _ _ _ _ _ _ _ _ | show LCg.CompEnd _ _ _ _ _ _ _ _ _ _ _ _ _ _ | show wpAny _ _ (eval (Expr.ListComp _ _ _ _) _) _ _ _ | show wpAny _ _ (eval (Expr.DictComp _ _ _ _ _) _) _ _ _ | show wpAny _ _ (exec (Stmt.Assign _ (Expr.ListComp _ _ _ _) _) _) _ _ _ | show wpAny _ _ (exec (Stmt.Assign _ (Expr.DictComp _ _ _ _ _) _) _) _ _ _ | show _ ≤ _)); (first | walk1 | (dsimp only; walk1)) <;> (try dsimp only)) | (leave1; try dsimp only) | fail "no step"))
  (rename IsRange _ _ _ _ _ _ _ _ => lR6); (rename Fr _ _ _ _ => lF6); (rename News _ _ _ _ => lN6)
  obtain ⟨f3, f7, f2, f0, f5, f8, hF⟩ : ∃ f3 f7 f2 f0 f5 f8, ∃ o1', News g' L' _ [(D0, lstO [Value.int 3 f3, Value.int 7 f7, Value.int 2 f2, Value.int 0 f0, Value.int 5 f5, Value.int 80 f8]), (L' + 1 + 1, o1'), (L' + 1, o2)] ∧ o1'.data = .cell (some (.ref D0)) := ⟨_, _, _, _, _, _, _, lN6, by assumption⟩
  obtain ⟨o1', hN, c1'⟩ := hF
  clear lN6
  refine LCg.CompSrc.range (n := 6) (by rfl) lF6 hN lR6 (by decide) (by decide) (by decide) (fun g6 => ?_)
  refine comp_ind (n := 6) (fun i ys news => (∃ ns, IntsAre ys ns ∧ ns.length = i) ∧ news = [(D0, lstO [Value.int 3 f3, Value.int 7 f7, Value.int 2 f2, Value.int 0 f0, Value.int 5 f5, Value.int 80 f8]), (L' + 1 + 1, o1'), (L' + 1, o2)]) ?ci0 ?ci1 _ _ _ _ (by decide) ⟨⟨[], .nil, rfl⟩, rfl⟩
  case ci1 =>
    rintro i ys news hi ⟨⟨ns, hys, hln⟩, rfl⟩ v I1 oI C oC DD m2 h1 tk1 E1 ⟨tj, rfl⟩ hCo hxj F1 N1 off1 ne1
    have hF : IntsAre [Value.int 3 f3, Value.int 7 f7, Value.int 2 f2, Value.int 0 f0, Value.int 5 f5, Value.int 80 f8] [3, 7, 2, 0, 5, 80] := .cons _ _ (.cons _ _ (.cons _ _ (.cons _ _ (.cons _ _ (.cons _ _ .nil)))))
    (repeat' (first | (k_unfold; (try dsimp only)) | ((fail_if_success (with_reducible first | show wpAny _ _ (PySem.call (Value.ref _) _) _ _ _ | show wpAny _ _ (pyIter (Value.ref _)) _ _ _ | show wpAny _ _ (exec (Stmt.For _ _ _ _ _) _) _ _ _ | show wpAny _ _ (subscriptTail _ _ _ _) _ _ _ | show DEnd _ _ _ _ _ _ _ _ _ _ _ _ _ _ | show wpAny _ _ (setItem _ _ _) _ _ _ | show wpAny _ _ (getItem _ _) _ _ _ | show LCg.CompSrc _ _ _ _ _ _ _ _ _ _ _ _ _ _ | show LCg.CompEnd _ _ _ _ _ _ _ _ _ _ _ _ _ _ | show wpAny _ _ (eval (Expr.ListComp _ _ _ _) _) _ _ _ | show wpAny _ _ (eval (Expr.DictComp _ _ _ _ _) _) _ _ _ | show wpAny _ _ (exec (Stmt.Assign _ (Expr.ListComp _ _ _ _) _) _) _ _ _ | show wpAny _ _ (exec (Stmt.Assign _ (Expr.DictComp _ _ _ _ _) _) _) _ _ _ | show _ ≤ _)); (first | walk1 | (dsimp only; walk1)) <;> (try dsimp only)) | (leave1; try dsimp only) | fail "no step"))
    (rename News _ _ _ _ => lN8)
    refine item_anyK (isL lN8 (by (with_reducible repeat' first | exact List.mem_cons_self .. | refine List.mem_cons_of_mem _ ?_))) hF (by (first | lia | omega)) (by simp only [List.length_cons, List.length_nil]; (first | lia | omega)) (by (first | lia | omega)) ?_ (by with_unfolding_all rfl)
    intro tt
    (repeat' (first | (k_unfold; (try dsimp only)) | ((fail_if_success (with_reducible first | show wpAny _ _ (PySem.call (Value.ref _) _) _ _ _ | show wpAny _ _ (pyIter (Value.ref _)) _ _ _ | show wpAny _ _ (exec (Stmt.For _ _ _ _ _) _) _ _ _ | show wpAny _ _ (subscriptTail _ _ _ _) _ _ _ | show DEnd _ _ _ _ _ _ _ _ _ _ _ _ _ _ | show wpAny _ _ (setItem _ _ _) _ _ _ | show wpAny _ _ (getItem _ _) _ _ _ | show LCg.CompSrc _ _ _ _ _ _ _ _ _ _ _ _ _ _ | show LCg.CompEnd _ _ _ _ _ _ _ _ _ _ _ _ _ _ | show wpAny _ _ (eval (Expr.ListComp _ _ _ _) _) _ _ _ | show wpAny _ _ (eval (Expr.DictComp _ _ _ _ _) _) _ _ _ | show wpAny _ _ (exec (Stmt.Assign _ (Expr.ListComp _ _ _ _) _) _) _ _ _ | show wpAny _ _ (exec (Stmt.Assign _ (Expr.DictComp _ _ _ _ _) _) _) _ _ _ | show _ ≤ _)); (first | walk1 | (dsimp only; walk1)) <;> (try dsimp only)) | (leave1; try dsimp only) | fail "no step"))
    (rename Fr _ _ _ _ => lF9); (rename News _ _ _ _ => lN9)
    obtain ⟨ms, hms⟩ := pick_ints hI (some ((0 : Int) + (i : Int))) none (some 6)
    refine' kmk_slice3_lit (s := ⟨_, _, _, _, _⟩) lF9 lN9 (hlg.at fun o e => lF9.keep _ _ e) (IsPart.int _ _) IsPart.none (IsPart.int _ _) (by decide) rfl ?h ?hs ?ht ?hz
    case hs => with_unfolding_all rfl
    case ht => (intro _; with_unfolding_all rfl)
    case hz => rw [List.size_toArray]; exact Nat.le_trans hn (by decide)
    intro DZ h5 F5 N5 lZ
    try dsimp only
    (repeat' (first | (k_unfold; (try dsimp only)) | ((fail_if_success (with_reducible first | show wpAny _ _ (PySem.call (Value.ref _) _) _ _ _ | show wpAny _ _ (pyIter (Value.ref _)) _ _ _ | show wpAny _ _ (exec (Stmt.For _ _ _ _ _) _) _ _ _ | show wpAny _ _ (subscriptTail _ _ _ _) _ _ _ | show DEnd _ _ _ _ _ _ _ _ _ _ _ _ _ _ | show wpAny _ _ (setItem _ _ _) _ _ _ | show wpAny _ _ (getItem _ _) _ _ _ | show LCg.CompSrc _ _ _ _ _ _ _ _ _ _ _ _ _ _ | show LCg.CompEnd _ _ _ _ _ _ _ _ _ _ _ _ _ _ | show wpAny _ _ (eval (Expr.ListComp _ _ _ _) _) _ _ _ | show wpAny _ _ (eval (Expr.DictComp _ _ _ _ _) _) _ _ _ | show wpAny _ _ (exec (Stmt.Assign _ (Expr.ListComp _ _ _ _) _) _) _ _ _ | show wpAny _ _ (exec (Stmt.Assign _ (Expr.DictComp _ _ _ _ _) _) _) _ _ _ | show _ ≤ _)); (first | walk1 | (dsimp only; walk1)) <;> (try dsimp only)) | (leave1; try dsimp only) | fail "no step"))
    (rename Fr _ _ _ _ => lFz); (rename News _ _ _ _ => lNz)
    exact LCg.CompEnd.intro lFz lNz _ (by (with_reducible repeat' first | exact List.forall_mem_nil _ | refine List.forall_mem_cons.mpr ⟨?_, ?_⟩ | exact List.mem_cons_self .. | refine List.mem_cons_of_mem _ ?_)) off1 trivial ⟨⟨_, intsAre_snoc hys _ _, by rw [List.length_append, hln]; rfl⟩, rfl⟩
  case ci0 =>
    rintro ys news ⟨⟨ns, hys, hln⟩, rfl⟩
    intro RR h3 tk3 F3 N3 o3
    (repeat' (first | (k_unfold; (try dsimp only)) | ((fail_if_success (with_reducible first | show wpAny _ _ (PySem.call (Value.ref _) _) _ _ _ | show wpAny _ _ (pyIter (Value.ref _)) _ _ _ | show wpAny _ _ (exec (Stmt.For _ _ _ _ _) _) _ _ _ | show LCg.CompSrc _ _ _ _ _ _ _ _ _ _ _ _ _ _ | show LCg.CompEnd _ _ _ _ _ _ _ _ _ _ _ _ _ _ | show wpAny _ _ (eval (Expr.ListComp _ _ _ _) _) _ _ _ | show wpAny _ _ (eval (Expr.DictComp _ _ _ _ _) _) _ _ _ | show wpAny _ _ (exec (Stmt.Assign _ (Expr.ListComp _ _ _ _) _) _) _ _ _ | show wpAny _ _ (exec (Stmt.Assign _ (Expr.DictComp _ _ _ _ _) _) _) _ _ _ | show _ ≤ _)); (first | walk1 | (dsimp only; walk1)) <;> (try dsimp only)) | (leave1; try dsimp only) | fail "no step"))
    (rename Fr h₀ L _ _ => kF1); (rename News h₀ L _ _ => kN1)
    have hne : ∀ q ∈ rest, @Ne Nat q.1 RR := fun q hq e => by
      have z := R' q hq
      have e' : q.1 = RR := e
      rw [e', (N3 _ (List.mem_cons_self ..)).2.2] at z
      cases z
    have hR := rests (news := []) (nn := [(RR, LCg.lst ys)]) (cb_drop kN1 (List.forall_mem_cons.mpr ⟨List.mem_cons_self .., List.forall_mem_nil _⟩)) N0 R' F3
    exact hret RR ys ns ys.length _ _ hne kF1 hR hys hln
end
end
theorem offLV : True := by
  w_top off
  exact True.intro
section
open PySem PySem.W PySem.Spec PySem.Calls PyProof.Rows
section
variable {w : World} {p : Program} {loose : List PySem.Str} {mean : ExcName → Option Value} {mg mb : PySem.Str → Option Value}
theorem OkN.use3 {f : Addr} {vs : List Value} {need : Nat} {news l : Led} {Post : Nat → Led → Addr → Prop} {dp un : Nat} {gd : Option (List Code)} {cn : PySem.Str} {cs : Scope} {a : Addr} {ccd : Value} {cl : List (PySem.Str × Addr)} {outer : List Env} {A₀ : Around} {base h₀ : Heap} {L : Addr} {m : PySem.Str → Option Value} {s : Shared}
    {Q E : Value → Shared → Prop} (B : Below A₀ base outer h₀) (F : Fr h₀ L s.heap m) (X : (hd.heap_1 w.params).In h₀) (N : News h₀ L s.heap l) (T : Top p loose mean mg mb h₀) (hk : cs.kind = .function) (hC : Codes base)
    (C : OkN w p loose mean mg mb f vs need news Post) (sub : ∀ q ∈ news, q ∈ l) (hd : dp + need < recursionLimit) (hu : un + 8 * need < cLine)
    (ret : ∀ b R news' h' tk', (∀ q ∈ l, @LT.lt Nat _ q.1 b ∧ @Ne Nat q.1 R) → Fr h₀ L h' m → News h₀ L h' news' → (∀ q ∈ l, (∀ p ∈ news, @Ne Nat p.1 q.1) → News h₀ L h' [q]) → Post b news' R → Q (.ref R) { s with heap := h', toks := tk' }) :
    wpAny (model PySem.Challenge.rw_wy0040_01.row.toRowW.prog w) (ktrTop dp un gd cn cs L a ccd cl outer) (call (.ref f) vs) Q E s := by
  classical
  have hmem : ∀ q, q ∈ l.filter (fun q => decide (∀ p ∈ news, @Ne Nat p.1 q.1)) ↔ q ∈ l ∧ ∀ p ∈ news, @Ne Nat p.1 q.1 := fun q => by
    rw [List.mem_filter, decide_eq_true_iff]
  refine C _ _ _ _ _ _ _ _ _ _ _ _ _ _ _ (l.filter fun q => decide (∀ p ∈ news, @Ne Nat p.1 q.1)) _ _ B F X (fun q hq => ?_) (fun p hp q hq => ((hmem q).mp hq).2 p hp) T hk hC hd hu
    (fun b R news' h' tk' U ne F' N' hp => ret b R news' h' tk' (fun q hq => ?_) F' (fun q hq => N' q (List.mem_append_left _ hq)) (fun q hq hn x hx => ?_) hp)
  · rcases List.mem_append.mp hq with hq | hq
    · exact N q (sub q hq)
    · exact N q ((hmem q).mp hq).1
  · by_cases hn : ∀ p ∈ news, @Ne Nat p.1 q.1
    · have z := List.mem_append_right news ((hmem q).mpr ⟨hq, hn⟩)
      exact ⟨U q z, ne q z⟩
    · obtain ⟨p, hp⟩ := Classical.not_forall.mp hn
      obtain ⟨hp, e⟩ := Classical.not_imp.mp hp
      have e' : p.1 = q.1 := Classical.not_not.mp e
      exact ⟨e' ▸ U p (List.mem_append_left _ hp), e' ▸ ne p (List.mem_append_left _ hp)⟩
  · rw [List.mem_singleton.mp hx]
    exact N' q (List.mem_append_right _ ((hmem q).mpr ⟨hq, hn⟩))
theorem OkN.conv {f : Addr} {vs vs' : List Value} {need : Nat} {news : Led} {Post : Nat → Led → Addr → Prop} (C : OkN w p loose mean mg mb f vs need news Post) (e : vs' = vs) : OkN w p loose mean mg mb f vs' need news Post := e ▸ C
theorem data_apart {h₀ h : Heap} {L : Addr} {l : Led} {p q : Addr × Obj} (N : News h₀ L h l) (hp : p ∈ l) (hq : q ∈ l) (hd : ∃ es ep, q.2.data = .dict es ep) (hc : ∀ es ep, p.2.data ≠ .dict es ep) : @Ne Nat p.1 q.1 := fun e => by
  have h1 := (N p hp).1
  have e' : p.1 = q.1 := e
  rw [e', (N q hq).1] at h1
  have h2 := Option.some.inj h1
  obtain ⟨es, ep, hdt⟩ := hd
  exact hc es ep (h2 ▸ hdt)
theorem data_of {K : Type} [DecidableEq K] {prog : Program} {knd : KeyKind prog w K} {kv : List (K × Value)} {o : Obj} (h : o.IsDictOf knd kv) : ∃ es ep, o.data = .dict es ep := let ⟨es, ep, _, hdt, _⟩ := h; ⟨es, ep, hdt⟩
theorem rev_tail {prog : Program} {A : Around} {E : Value → Shared → Prop} {s : Shared} {h₀ : Heap} {L l : Addr} {m : PySem.Str → Option Value} {news : Led} {value slice : PySem.Expr} {vs : List Value} {ns : List Int} {tk : Tok} {ops : List Value} {Q : Value → Shared → Prop}
    (F : Fr h₀ L s.heap m) (N : News h₀ L s.heap news) (hl : s.heap.IsList l vs.toArray) (hi : IntsAre vs ns)
    (h : ∀ D ws h', Fr h₀ L h' m → News h₀ L h' ((D, lstC ws 0) :: news) → IntsAre ws ns.reverse → Q (.ref D) { s with heap := h' })
    (hs : subscripted slice false (.ref l) (.ref s.heap.objs.size) = operate ops (getItem (.ref l) (.ref s.heap.objs.size))) (hz : vs.toArray.size ≤ sizeLine) :
    wpAny (model prog w) A (subscriptTail value slice (.ref l) (.ref s.heap.objs.size)) Q E { s with heap := s.heap.push { cls := .type "slice", data := .fields #[.none, .none, .int (-1) tk] } } := by
  refine tail_any (Heap.IsList.typeIs (s := { s with heap := s.heap.push { cls := .type "slice", data := .fields #[.none, .none, .int (-1) tk] } }) (hl.push _)) slot_list_getitem.lookup
    (wpAny_getItem_list_slice (hl.push _) (Heap.IsSliceOf.new ..) .none .none (.int (-1) tk) (by decide) ?_ hz) hs
  have N1 := News.push (F.push { cls := .type "slice", data := .fields #[.none, .none, .int (-1) tk] }) (N.grown fun _ _ e => Heap.get?_push_of_some _ e) { cls := .type "list", data := .seq (slicePick vs.toArray none none (some (-1))) }
  rw [krv_pick] at N1 ⊢
  exact h _ vs.reverse _ ((F.push _).push _) N1 hi.reverse
theorem ints_dat : ∀ {vs : List Value} {ns : List Int}, IntsAre vs ns → DatAll [] vs (ns.map Dat.int)
  | _, _, .nil => .nil
  | _, _, .cons n t h => .cons (.int n t) (ints_dat h)
theorem kqd_eq_same {prog : Program} {A : Around} {E : Value → Shared → Prop} {s : Shared} {h₀ : Heap} {L a b : Addr} {news : Led} {xs ys : List Value} {ka kb : Nat} {ns : List Int} {Q : Value → Shared → Prop} (N : News h₀ L s.heap news) (ma : (a, lstC xs ka) ∈ news) (Da : IntsAre xs ns)
    (mb : (b, lstC ys kb) ∈ news) (Db : IntsAre ys ns) (hu : A.units + 64 < cLine) (h : Q (.bool true) s) : wpAny (model prog w) A (compareOp .Eq (.ref a) (.ref b)) Q E s :=
  have ok : ∀ d ∈ ns.map Dat.int, kqdOk 8 d = true := fun d hd => by
    obtain ⟨n, _, rfl⟩ := List.mem_map.mp hd
    rfl
  kqd_eq N ma rfl rfl (ints_dat Da) (fun _ h => nomatch h) mb rfl rfl (ints_dat Db) (fun _ h => nomatch h) ok ok hu (by simpa using h)
theorem out_is {l : List (Int × Int)} (h : In3 l) (s : Int) : outL (p5P l s) = (cntL (town l) s).reverse := (sums_k h s).symm
end
end
section
open PySem PySem.W PySem.Spec PySem.Calls PyProof.Rows
local macro_rules | `(tactic| walk_at "newTuple") => `(tactic| (k_here; k_dflt (refine newTuple_L (by k_asm) (by k_asm) ?_ (by first | decide | size_fits)); intro _ _ _ _ _ _))
theorem offLW : True := by
  w_top off
  exact True.intro
section
open PySem PySem.W PySem.Spec PySem.Calls PyProof.Rows
section
variable {w : World} {p : Program} {loose : List PySem.Str} {mean : ExcName → Option Value} {mg mb : PySem.Str → Option Value}
inductive I6 (v : List Value) : Prop
  | mk (a0 a1 a2 a3 a4 a5 : Int) (t0 t1 t2 t3 t4 t5 : Tok) (e : v = [.int a0 t0, .int a1 t1, .int a2 t2, .int a3 t3, .int a4 t4, .int a5 t5])
theorem ints6 {v : List Value} {ns : List Int} (h : IntsAre v ns) (hl : ns.length = 6) : I6 v := by
  match ns, hl with
  | [_, _, _, _, _, _], _ =>
    obtain ⟨t0, _, rfl, h1⟩ := intsC h
    obtain ⟨t1, _, rfl, h2⟩ := intsC h1
    obtain ⟨t2, _, rfl, h3⟩ := intsC h2
    obtain ⟨t3, _, rfl, h4⟩ := intsC h3
    obtain ⟨t4, _, rfl, h5⟩ := intsC h4
    obtain ⟨t5, _, rfl, h6⟩ := intsC h5
    obtain rfl := intsN h6
    exact ⟨_, _, _, _, _, _, t0, t1, t2, t3, t4, t5, rfl⟩
inductive LwJ (D1 R : Addr) (a0 a1 a2 a3 a4 a5 : Int) (t0 t1 t2 t3 t4 t5 : Tok) (kc : Nat) (i : Nat) (ys : List Value) (news : Led) : Prop
  | mk (pes : List PE) (NN : Led) (h1 : ys = pes.map PE.ref) (h2 : pes.length = i) (h3 : In3 (pes.map PE.nf)) (h4 : ∀ e ∈ pes, e.obj ∈ NN ∧ @LT.lt Nat _ 54 e.a) (e : news = NN ++ [(D1, W.listOf #[Value.int a0 t0, Value.int a1 t1, Value.int a2 t2, Value.int a3 t3] 0), (R, lstC [Value.int a0 t0, Value.int a1 t1, Value.int a2 t2, Value.int a3 t3, Value.int a4 t4, Value.int a5 t5] kc), (47, tabObj #[]), (54, tabObj #[])])
set_option maxHeartbeats 8000000 in
theorem lawW : PySem.Challenge.rw_wy0040_01.Holds := hd (by
  k_go0
  all_goals (try k_fold)
  rename @LT.lt Nat _ 54 _ => l54
  rename IntsAre _ _ => hI
  rename Below callerA _ [] _ => BB
  (rename Frag.In _ _ => XX)
  (rename News _ _ _ _ => lN)
  (rename Fr _ _ _ _ => lF)
  rename CodeHd _ (51, 47).fst _ => hc51
  rename CodeHd _ (58, 54).fst _ => hc58
  (rename Top _ _ _ _ _ _ => TT)
  (repeat' (first | (k_unfold; (try dsimp only)) | ((fail_if_success (with_reducible first | show wpAny _ _ (PySem.call (Value.ref _) _) _ _ _ | show wpAny _ _ (pyIter (Value.ref _)) _ _ _ | show wpAny _ _ (exec (Stmt.For _ _ _ _ _) _) _ _ _ | show wpAny _ _ (subscriptTail _ _ _ _) _ _ _ | show DEnd _ _ _ _ _ _ _ _ _ _ _ _ _ _ | show wpAny _ _ (setItem _ _ _) _ _ _ | show wpAny _ _ (getItem _ _) _ _ _ | show LCg.CompSrc _ _ _ _ _ _ _ _ _ _ _ _ _ _ | show LCg.CompEnd _ _ _ _ _ _ _ _ _ _ _ _ _ _ | show wpAny _ _ (eval (Expr.ListComp _ _ _ _) _) _ _ _ | show wpAny _ _ (eval (Expr.DictComp _ _ _ _ _) _) _ _ _ | show wpAny _ _ (exec (Stmt.Assign _ (Expr.ListComp _ _ _ _) _) _) _ _ _ | show wpAny _ _ (exec (Stmt.Assign _ (Expr.DictComp _ _ _ _ _) _) _) _ _ _ | show _ ≤ _)); (first | walk1 | (dsimp only; walk1)) <;> (try dsimp only)) | (leave1; try dsimp only) | fail "no step"))
  refine lcells hI ?hlen BB lF XX lN lifted TT rfl ⟨hc51, hc58⟩ (by decide) (by decide) ?_
  case hlen =>
    rw [hI.length]; (first | lia | omega)
  intro R cv cns kc h1 tk1 neR F1 N1 hcv hcl
  obtain ⟨a0, a1, a2, a3, a4, a5, t0, t1, t2, t3, t4, t5, rfl⟩ := ints6 hcv hcl
  try dsimp only
  (repeat' (first | (k_unfold; (try dsimp only)) | ((fail_if_success (with_reducible first | show wpAny _ _ (PySem.call (Value.ref _) _) _ _ _ | show wpAny _ _ (pyIter (Value.ref _)) _ _ _ | show wpAny _ _ (exec (Stmt.For _ _ _ _ _) _) _ _ _ | show wpAny _ _ (subscriptTail _ _ _ _) _ _ _ | show DEnd _ _ _ _ _ _ _ _ _ _ _ _ _ _ | show wpAny _ _ (setItem _ _ _) _ _ _ | show wpAny _ _ (getItem _ _) _ _ _ | show LCg.CompSrc _ _ _ _ _ _ _ _ _ _ _ _ _ _ | show LCg.CompEnd _ _ _ _ _ _ _ _ _ _ _ _ _ _ | show wpAny _ _ (eval (Expr.ListComp _ _ _ _) _) _ _ _ | show wpAny _ _ (eval (Expr.DictComp _ _ _ _ _) _) _ _ _ | show wpAny _ _ (exec (Stmt.Assign _ (Expr.ListComp _ _ _ _) _) _) _ _ _ | show wpAny _ _ (exec (Stmt.Assign _ (Expr.DictComp _ _ _ _ _) _) _) _ _ _ | show _ ≤ _)); (first | walk1 | (dsimp only; walk1)) <;> (try dsimp only)) | (leave1; try dsimp only) | fail "no step"))
  walk1
  (rename News _ _ _ _ => lN1)
  obtain ⟨D1, e⟩ := nmA0 lN1; subst e
  refine comp_ind (n := 4) (LwJ D1 R a0 a1 a2 a3 a4 a5 t0 t1 t2 t3 t4 t5 kc) ?ci0 ?ci1 _ _ _ _ (by decide) ⟨[], [], rfl, rfl, (fun _ h => nomatch h), (fun _ h => nomatch h), rfl⟩
  case ci1 =>
    rintro i ys news hi ⟨pes, NN, rfl, hpl, hp3, hpe, rfl⟩ v I1 oI C oC DD m2 h2 tk2 E1 hv hCo hxj F2 N2 off1 ne1
    have hF4 : IntsAre [Value.int a0 t0, Value.int a1 t1, Value.int a2 t2, Value.int a3 t3] [a0, a1, a2, a3] := .cons _ _ (.cons _ _ (.cons _ _ (.cons _ _ .nil)))
    obtain ⟨n, tn, rfl⟩ := ints_each hF4 v (List.mem_of_getElem? (by simpa using hv))
    (repeat' (first | (k_unfold; (try dsimp only)) | ((fail_if_success (with_reducible first | show wpAny _ _ (PySem.call (Value.ref _) _) _ _ _ | show wpAny _ _ (pyIter (Value.ref _)) _ _ _ | show wpAny _ _ (exec (Stmt.For _ _ _ _ _) _) _ _ _ | show wpAny _ _ (subscriptTail _ _ _ _) _ _ _ | show DEnd _ _ _ _ _ _ _ _ _ _ _ _ _ _ | show wpAny _ _ (setItem _ _ _) _ _ _ | show wpAny _ _ (getItem _ _) _ _ _ | show LCg.CompSrc _ _ _ _ _ _ _ _ _ _ _ _ _ _ | show LCg.CompEnd _ _ _ _ _ _ _ _ _ _ _ _ _ _ | show wpAny _ _ (eval (Expr.ListComp _ _ _ _) _) _ _ _ | show wpAny _ _ (eval (Expr.DictComp _ _ _ _ _) _) _ _ _ | show wpAny _ _ (exec (Stmt.Assign _ (Expr.ListComp _ _ _ _) _) _) _ _ _ | show wpAny _ _ (exec (Stmt.Assign _ (Expr.DictComp _ _ _ _ _) _) _) _ _ _ | show _ ≤ _)); (first | walk1 | (dsimp only; walk1)) <;> (try dsimp only)) | (leave1; try dsimp only) | fail "no step"))
    (rename Fr _ _ _ _ => lF9); (rename News _ _ _ _ => lN9)
    obtain ⟨T9, e⟩ := nmA0 lN9; subst e
    obtain ⟨o9, e⟩ := nmO0 lN9
    rename ∀ p ∈ (I1, oI) :: _, _ => lT
    rename @LT.lt Nat _ _ T9 => lLT
    obtain ⟨pe, pa, pn, pf, po⟩ : ∃ pe : PE, pe.a = T9 ∧ pe.n = n.fmod 3 ∧ pe.f = (n.fdiv 3).fmod 3 ∧ pe.obj = (T9, o9) := by rw [e]; exact ⟨⟨T9, n.fmod 3, _, (n.fdiv 3).fmod 3, _⟩, rfl, rfl, rfl, rfl⟩
    rw [← e, ← po] at lN9
    have hpr : Value.ref T9 = pe.ref := by rw [PE.ref, pa]
    rw [hpr]
    refine ⟨_, _, pe.obj :: (NN ++ [(D1, W.listOf #[Value.int a0 t0, Value.int a1 t1, Value.int a2 t2, Value.int a3 t3] 0), (R, lstC [Value.int a0 t0, Value.int a1 t1, Value.int a2 t2, Value.int a3 t3, Value.int a4 t4, Value.int a5 t5] kc), (47, tabObj #[]), (54, tabObj #[])]), rfl, lF9, cb_drop (news := (I1, oI) :: (C, oC) :: (DD, LCg.lst (pes.map PE.ref)) :: pe.obj :: (NN ++ [(D1, W.listOf #[Value.int a0 t0, Value.int a1 t1, Value.int a2 t2, Value.int a3 t3] 0), (R, lstC [Value.int a0 t0, Value.int a1 t1, Value.int a2 t2, Value.int a3 t3, Value.int a4 t4, Value.int a5 t5] kc), (47, tabObj #[]), (54, tabObj #[])])) lN9 ?sub, ⟨?of, off1⟩, .inr ⟨_, List.mem_cons_of_mem _ (List.mem_append_right _ (List.mem_cons_self ..)), rfl, _, rfl⟩, pes ++ [pe], pe.obj :: NN, by rw [List.map_append]; rfl, by rw [List.length_append, hpl]; rfl, ?i3, ?mem, rfl⟩
    case sub => exact (subB [[pe.obj], [(I1, oI)], [(C, oC)], [(DD, LCg.lst (pes.map PE.ref))], NN, [(D1, W.listOf #[Value.int a0 t0, Value.int a1 t1, Value.int a2 t2, Value.int a3 t3] 0)], [(R, lstC [Value.int a0 t0, Value.int a1 t1, Value.int a2 t2, Value.int a3 t3, Value.int a4 t4, Value.int a5 t5] kc)], [(47, tabObj #[])], [(54, tabObj #[])]] 8 [1, 2, 3, 0, 4, 5, 6, 7] 8 [0, 1, 2, 3, 4, 5, 6, 7] rfl : ∀ q ∈ (I1, oI) :: (C, oC) :: (DD, LCg.lst (pes.map PE.ref)) :: pe.obj :: (NN ++ [(D1, W.listOf #[Value.int a0 t0, Value.int a1 t1, Value.int a2 t2, Value.int a3 t3] 0), (R, lstC [Value.int a0 t0, Value.int a1 t1, Value.int a2 t2, Value.int a3 t3, Value.int a4 t4, Value.int a5 t5] kc), (47, tabObj #[]), (54, tabObj #[])]), q ∈ pe.obj :: (I1, oI) :: (C, oC) :: (DD, LCg.lst (pes.map PE.ref)) :: (NN ++ [(D1, W.listOf #[Value.int a0 t0, Value.int a1 t1, Value.int a2 t2, Value.int a3 t3] 0), (R, lstC [Value.int a0 t0, Value.int a1 t1, Value.int a2 t2, Value.int a3 t3, Value.int a4 t4, Value.int a5 t5] kc), (47, tabObj #[]), (54, tabObj #[])]))
    case of =>
      show (@Ne Nat pe.a I1) ∧ (@Ne Nat pe.a C) ∧ (@Ne Nat pe.a DD)
      rw [pa]
      exact ⟨Nat.ne_of_gt (lT (I1, oI) (by (with_reducible repeat' first | exact List.mem_cons_self .. | refine List.mem_cons_of_mem _ ?_))), Nat.ne_of_gt (lT (C, oC) (by (with_reducible repeat' first | exact List.mem_cons_self .. | refine List.mem_cons_of_mem _ ?_))), Nat.ne_of_gt (lT (DD, LCg.lst (pes.map PE.ref)) (by (with_reducible repeat' first | exact List.mem_cons_self .. | refine List.mem_cons_of_mem _ ?_)))⟩
    case i3 =>
      intro q hq
      rw [List.map_append] at hq
      rcases List.mem_append.mp hq with hq | hq
      · exact hp3 q hq
      · rw [List.mem_singleton.mp hq]
        show 0 ≤ pe.n ∧ pe.n < 3 ∧ 0 ≤ pe.f ∧ pe.f < 3
        rw [pn, pf]
        exact ⟨fmod_lo _ (by decide), fmod_hi _ (by decide), fmod_lo _ (by decide), fmod_hi _ (by decide)⟩
    case mem =>
      intro e he
      rcases List.mem_append.mp he with he | he
      · exact ⟨List.mem_cons_of_mem _ (hpe e he).1, (hpe e he).2⟩
      · rw [List.mem_singleton.mp he, pa]
        exact ⟨List.mem_cons_self .., Nat.lt_trans l54 lLT⟩
  case ci0 =>
    rintro ys news ⟨pes, NN, rfl, hpl, hp3, hpe, rfl⟩
    intro P h3 tk3 F3 N3 o3
    have N4 := cb_drop (news := (P, LCg.lst (pes.map PE.ref)) :: (R, lstC [Value.int a0 t0, Value.int a1 t1, Value.int a2 t2, Value.int a3 t3, Value.int a4 t4, Value.int a5 t5] kc) :: (47, tabObj #[]) :: (54, tabObj #[]) :: NN) N3 (subB [[(P, LCg.lst (pes.map PE.ref))], NN, [(D1, W.listOf #[Value.int a0 t0, Value.int a1 t1, Value.int a2 t2, Value.int a3 t3] 0)], [(R, lstC [Value.int a0 t0, Value.int a1 t1, Value.int a2 t2, Value.int a3 t3, Value.int a4 t4, Value.int a5 t5] kc)], [(47, tabObj #[])], [(54, tabObj #[])]] 1 [0, 3, 4, 5] 5 [0, 1, 2, 3, 4] rfl : ∀ q ∈ (P, LCg.lst (pes.map PE.ref)) :: (R, lstC [Value.int a0 t0, Value.int a1 t1, Value.int a2 t2, Value.int a3 t3, Value.int a4 t4, Value.int a5 t5] kc) :: (47, tabObj #[]) :: (54, tabObj #[]) :: NN, q ∈ (P, LCg.lst (pes.map PE.ref)) :: (NN ++ [(D1, W.listOf #[Value.int a0 t0, Value.int a1 t1, Value.int a2 t2, Value.int a3 t3] 0), (R, lstC [Value.int a0 t0, Value.int a1 t1, Value.int a2 t2, Value.int a3 t3, Value.int a4 t4, Value.int a5 t5] kc), (47, tabObj #[]), (54, tabObj #[])]))
    clear N3 lN1
    try dsimp only
    walk1
    walk1
    (repeat' (first | (k_unfold; (try dsimp only)) | ((fail_if_success (with_reducible first | show wpAny _ _ (PySem.call (Value.ref _) _) _ _ _ | show wpAny _ _ (pyIter (Value.ref _)) _ _ _ | show wpAny _ _ (exec (Stmt.For _ _ _ _ _) _) _ _ _ | show LCg.CompSrc _ _ _ _ _ _ _ _ _ _ _ _ _ _ | show LCg.CompEnd _ _ _ _ _ _ _ _ _ _ _ _ _ _ | show wpAny _ _ (eval (Expr.ListComp _ _ _ _) _) _ _ _ | show wpAny _ _ (eval (Expr.DictComp _ _ _ _ _) _) _ _ _ | show wpAny _ _ (exec (Stmt.Assign _ (Expr.ListComp _ _ _ _) _) _) _ _ _ | show wpAny _ _ (exec (Stmt.Assign _ (Expr.DictComp _ _ _ _ _) _) _) _ _ _ | show _ ≤ _)); (first | walk1 | (dsimp only; walk1)) <;> (try dsimp only)) | (leave1; try dsimp only) | fail "no step"))
    have hoP := LCoff o3
    have x8 : 0 ≤ a4.fmod 8 ∧ a4.fmod 8 < 8 := ⟨fmod_lo _ (by decide), fmod_hi _ (by decide)⟩
    have hdps : ∀ e ∈ pes, @Ne Nat P e.a ∧ @LT.lt Nat _ 54 e.a := fun e he => ⟨(hoP e.obj (List.mem_append_left _ (hpe e he).1)).symm, (hpe e he).2⟩
    have hsubP : ∀ q ∈ [(P, lstC (pes.map PE.ref) (pes.map PE.ref).length)] ++ pes.map PE.obj, q ∈ (P, LCg.lst (pes.map PE.ref)) :: (R, lstC [Value.int a0 t0, Value.int a1 t1, Value.int a2 t2, Value.int a3 t3, Value.int a4 t4, Value.int a5 t5] kc) :: (47, tabObj #[]) :: (54, tabObj #[]) :: NN := fun q hq => by
      rcases List.mem_append.mp hq with hq | hq
      · rw [List.mem_singleton.mp hq]; exact List.mem_cons_self ..
      · obtain ⟨e, he, rfl⟩ := List.mem_map.mp hq
        exact List.mem_append_right [(P, LCg.lst (pes.map PE.ref)), (R, lstC [Value.int a0 t0, Value.int a1 t1, Value.int a2 t2, Value.int a3 t3, Value.int a4 t4, Value.int a5 t5] kc), (47, tabObj #[]), (54, tabObj #[])] (hpe e he).1
    (rename Fr _ _ _ _ => lF6); (rename News _ _ _ _ => lN6)
    refine' Ok.use3 BB lF6 XX lN6 TT rfl ⟨hc51, hc58⟩ ((lafter (s1 := 4 - a4.fmod 8) (tp := _) (k0 := (pes.map PE.ref).length) hpl hp3 hdps).conv ?cv) hsubP (by decide) (by decide) ?_
    case cv =>
      rw [show (1 : Int) - (4 - a4.fmod 8) = a4.fmod 8 - 3 by (first | lia | omega)]
    intro bA rA nA hA tkA UA FA NA KA hpA
    obtain ⟨aA, oA, kA, ds, rfl, rfl, hdA, aft, lA54, hAd⟩ := hpA
    have MA := news_ro (ex := (aA, oA) :: ds.map IE.obj) lN6 hsubP NA KA
    replace MA := cb_drop (news := (P, LCg.lst (pes.map PE.ref)) :: (R, lstC [Value.int a0 t0, Value.int a1 t1, Value.int a2 t2, Value.int a3 t3, Value.int a4 t4, Value.int a5 t5] kc) :: (47, tabObj #[]) :: (54, tabObj #[]) :: (aA, oA) :: (ds.map IE.obj ++ NN)) MA (subB [[(aA, oA)], ds.map IE.obj, [(P, LCg.lst (pes.map PE.ref))], [(R, lstC [Value.int a0 t0, Value.int a1 t1, Value.int a2 t2, Value.int a3 t3, Value.int a4 t4, Value.int a5 t5] kc)], [(47, tabObj #[])], [(54, tabObj #[])], NN] 6 [2, 3, 4, 5, 0, 1] 6 [0, 1, 2, 3, 4, 5] rfl : ∀ q ∈ (P, LCg.lst (pes.map PE.ref)) :: (R, lstC [Value.int a0 t0, Value.int a1 t1, Value.int a2 t2, Value.int a3 t3, Value.int a4 t4, Value.int a5 t5] kc) :: (47, tabObj #[]) :: (54, tabObj #[]) :: (aA, oA) :: (ds.map IE.obj ++ NN), q ∈ (aA, oA) :: (ds.map IE.obj ++ ((P, LCg.lst (pes.map PE.ref)) :: (R, lstC [Value.int a0 t0, Value.int a1 t1, Value.int a2 t2, Value.int a3 t3, Value.int a4 t4, Value.int a5 t5] kc) :: (47, tabObj #[]) :: (54, tabObj #[]) :: NN)))
    clear NA KA lN6
    try dsimp only
    (repeat' (first | (k_unfold; (try dsimp only)) | ((fail_if_success (with_reducible first | show wpAny _ _ (PySem.call (Value.ref _) _) _ _ _ | show wpAny _ _ (pyIter (Value.ref _)) _ _ _ | show wpAny _ _ (exec (Stmt.For _ _ _ _ _) _) _ _ _ | show LCg.CompSrc _ _ _ _ _ _ _ _ _ _ _ _ _ _ | show LCg.CompEnd _ _ _ _ _ _ _ _ _ _ _ _ _ _ | show wpAny _ _ (eval (Expr.ListComp _ _ _ _) _) _ _ _ | show wpAny _ _ (eval (Expr.DictComp _ _ _ _ _) _) _ _ _ | show wpAny _ _ (exec (Stmt.Assign _ (Expr.ListComp _ _ _ _) _) _) _ _ _ | show wpAny _ _ (exec (Stmt.Assign _ (Expr.DictComp _ _ _ _ _) _) _) _ _ _ | show _ ≤ _)); (first | walk1 | (dsimp only; walk1)) <;> (try dsimp only)) | (leave1; try dsimp only) | fail "no step"))
    have y8 : 0 ≤ a5.fmod 89 ∧ a5.fmod 89 < 89 := ⟨fmod_lo _ (by decide), fmod_hi _ (by decide)⟩
    obtain ⟨nn, hnn⟩ : ∃ nn : Nat, 32 + 11 * a5.fmod 89 = (nn : Int) := ⟨(32 + 11 * a5.fmod 89).toNat, (Int.toNat_of_nonneg (by (first | lia | omega))).symm⟩
    have hsubD : ∀ q ∈ [(47, tabObj #[]), (54, tabObj #[]), (P, lstC (pes.map PE.ref) (pes.map PE.ref).length)] ++ pes.map PE.obj, q ∈ (P, LCg.lst (pes.map PE.ref)) :: (R, lstC [Value.int a0 t0, Value.int a1 t1, Value.int a2 t2, Value.int a3 t3, Value.int a4 t4, Value.int a5 t5] kc) :: (47, tabObj #[]) :: (54, tabObj #[]) :: (aA, oA) :: (ds.map IE.obj ++ NN) := fun q hq => by
      rcases List.mem_append.mp hq with hq | hq
      · exact (by (with_reducible repeat' first | exact List.forall_mem_nil _ | refine List.forall_mem_cons.mpr ⟨?_, ?_⟩ | exact List.mem_cons_self .. | refine List.mem_cons_of_mem _ ?_) : ∀ q ∈ [(47, tabObj #[]), (54, tabObj #[]), (P, LCg.lst (pes.map PE.ref))], q ∈ (P, LCg.lst (pes.map PE.ref)) :: (R, lstC [Value.int a0 t0, Value.int a1 t1, Value.int a2 t2, Value.int a3 t3, Value.int a4 t4, Value.int a5 t5] kc) :: (47, tabObj #[]) :: (54, tabObj #[]) :: (aA, oA) :: (ds.map IE.obj ++ NN)) q hq
      · obtain ⟨e, he, rfl⟩ := List.mem_map.mp hq
        exact List.mem_append_right [(P, LCg.lst (pes.map PE.ref)), (R, lstC [Value.int a0 t0, Value.int a1 t1, Value.int a2 t2, Value.int a3 t3, Value.int a4 t4, Value.int a5 t5] kc), (47, tabObj #[]), (54, tabObj #[]), (aA, oA)] (List.mem_append_right _ (hpe e he).1)
    (rename Fr _ _ _ _ => lF7); (rename News _ _ _ _ => lN7)
    refine' OkN.use3 BB lF7 XX lN7 TT rfl ⟨hc51, hc58⟩ ((ldiv (k0 := (pes.map PE.ref).length) (price := a4.fmod 8 - 3) (n := nn) (tp := _) (tw := _) hpl hp3 (by (first | lia | omega)) (by (first | lia | omega)) (by (first | lia | omega)) (by (first | lia | omega)) (hoP (47, tabObj #[]) (List.mem_append_right _ (by (with_reducible repeat' first | exact List.mem_cons_self .. | refine List.mem_cons_of_mem _ ?_)))) (hoP (54, tabObj #[]) (List.mem_append_right _ (by (with_reducible repeat' first | exact List.mem_cons_self .. | refine List.mem_cons_of_mem _ ?_)))) hdps).conv ?cw) hsubD (by decide) (by decide) ?_
    case cw => rw [hnn]
    intro bD RD nD hD tkD UD FD ND KD hpD
    obtain ⟨c1, oc1, c2, oc2, out, kD, lc1, lc2, c12, rc1, rc2, q1, q2, hout, rfl⟩ := hpD
    have hk0 : ∀ q ∈ (P, LCg.lst (pes.map PE.ref)) :: (R, lstC [Value.int a0 t0, Value.int a1 t1, Value.int a2 t2, Value.int a3 t3, Value.int a4 t4, Value.int a5 t5] kc) :: (47, tabObj #[]) :: (54, tabObj #[]) :: (aA, oA) :: (ds.map IE.obj ++ NN), @LT.lt Nat _ 54 q.1 → (∃ es ep, q.2.data = .dict es ep) → ∀ p ∈ [(47, tabObj #[]), (54, tabObj #[]), (P, lstC (pes.map PE.ref) (pes.map PE.ref).length)] ++ pes.map PE.obj, @Ne Nat p.1 q.1 := fun q hq h5 hdq p hp => by
      rcases List.mem_append.mp hp with hp' | hp'
      · simp only [List.mem_cons, List.not_mem_nil, or_false] at hp'
        rcases hp' with rfl | rfl | rfl
        · exact Nat.ne_of_lt (Nat.lt_trans (by decide) h5)
        · exact Nat.ne_of_lt h5
        · exact data_apart lN7 (hsubD _ hp) hq hdq (fun _ _ h => nomatch h)
      · obtain ⟨e, he, rfl⟩ := List.mem_map.mp hp'
        exact data_apart lN7 (hsubD _ hp) hq hdq (fun _ _ h => nomatch h)
    have mAA : (aA, oA) ∈ (P, LCg.lst (pes.map PE.ref)) :: (R, lstC [Value.int a0 t0, Value.int a1 t1, Value.int a2 t2, Value.int a3 t3, Value.int a4 t4, Value.int a5 t5] kc) :: (47, tabObj #[]) :: (54, tabObj #[]) :: (aA, oA) :: (ds.map IE.obj ++ NN) := by (with_reducible repeat' first | exact List.mem_cons_self .. | refine List.mem_cons_of_mem _ ?_)
    have mDs : ∀ e ∈ ds, e.obj ∈ (P, LCg.lst (pes.map PE.ref)) :: (R, lstC [Value.int a0 t0, Value.int a1 t1, Value.int a2 t2, Value.int a3 t3, Value.int a4 t4, Value.int a5 t5] kc) :: (47, tabObj #[]) :: (54, tabObj #[]) :: (aA, oA) :: (ds.map IE.obj ++ NN) := fun e he => List.mem_append_right [(P, LCg.lst (pes.map PE.ref)), (R, lstC [Value.int a0 t0, Value.int a1 t1, Value.int a2 t2, Value.int a3 t3, Value.int a4 t4, Value.int a5 t5] kc), (47, tabObj #[]), (54, tabObj #[]), (aA, oA)] (List.mem_append_left _ (List.mem_map_of_mem he))
    have kA1 := KD _ mAA (hk0 _ mAA lA54 (data_of hdA))
    have kD1 : ∀ e ∈ ds, News _ _ hD [e.obj] := fun e he => KD _ (mDs e he) (hk0 _ (mDs e he) (aft.far e he) (data_of (hAd e he).2))
    have N3 : News _ _ hD (((54, tab54 c2) :: (c2, oc2) :: (aA, oA) :: ds.map IE.obj) ++ [(RD, lstC out kD), (47, tab47 c1)]) := fun q hq => by
      rcases List.mem_append.mp hq with hq | hq
      · rcases List.mem_cons.mp hq with rfl | hq
        · exact ND _ (List.mem_append_left _ (by (with_reducible repeat' first | exact List.mem_cons_self .. | refine List.mem_cons_of_mem _ ?_)))
        rcases List.mem_cons.mp hq with rfl | hq
        · exact ND _ (List.mem_append_left _ (by (with_reducible repeat' first | exact List.mem_cons_self .. | refine List.mem_cons_of_mem _ ?_)))
        rcases List.mem_cons.mp hq with rfl | hq
        · exact kA1 _ (List.mem_cons_self ..)
        · obtain ⟨e, he, rfl⟩ := List.mem_map.mp hq
          exact kD1 e he _ (List.mem_cons_self ..)
      · rcases List.mem_cons.mp hq with rfl | hq
        · exact ND _ (List.mem_append_left _ (by (with_reducible repeat' first | exact List.mem_cons_self .. | refine List.mem_cons_of_mem _ ?_)))
        rw [List.mem_singleton.mp hq]; exact ND _ (List.mem_append_left _ (by (with_reducible repeat' first | exact List.mem_cons_self .. | refine List.mem_cons_of_mem _ ?_)))
    have m47 : (47, tabObj #[]) ∈ (P, LCg.lst (pes.map PE.ref)) :: (R, lstC [Value.int a0 t0, Value.int a1 t1, Value.int a2 t2, Value.int a3 t3, Value.int a4 t4, Value.int a5 t5] kc) :: (47, tabObj #[]) :: (54, tabObj #[]) :: (aA, oA) :: (ds.map IE.obj ++ NN) := by (with_reducible repeat' first | exact List.mem_cons_self .. | refine List.mem_cons_of_mem _ ?_)
    have m54 : (54, tabObj #[]) ∈ (P, LCg.lst (pes.map PE.ref)) :: (R, lstC [Value.int a0 t0, Value.int a1 t1, Value.int a2 t2, Value.int a3 t3, Value.int a4 t4, Value.int a5 t5] kc) :: (47, tabObj #[]) :: (54, tabObj #[]) :: (aA, oA) :: (ds.map IE.obj ++ NN) := by (with_reducible repeat' first | exact List.mem_cons_self .. | refine List.mem_cons_of_mem _ ?_)
    have h2a : @LT.lt Nat _ 54 c2 := Nat.lt_trans (UD _ m54).1 lc2
    have h2b : @Ne Nat c2 aA := Nat.ne_of_gt (Nat.lt_trans (UD _ mAA).1 lc2)
    have hdsC : ∀ e ∈ ds, @Ne Nat c2 e.d ∧ @Ne Nat aA e.d := fun e he => ⟨Nat.ne_of_gt (Nat.lt_trans (UD _ (mDs e he)).1 lc2), (hAd e he).1⟩
    have apC : Apart ([(54, tab54 c2), (c2, oc2), (aA, oA)] ++ ds.map IE.obj) [(RD, lstC out kD), (47, tab47 c1)] := fun p hp q hq => by
      rcases List.mem_cons.mp hq with rfl | hq
      rotate_left
      · rw [List.mem_singleton.mp hq]
        rcases List.mem_append.mp hp with hp | hp
        · simp only [List.mem_cons, List.not_mem_nil, or_false] at hp
          rcases hp with rfl | rfl | rfl
          · exact (show (54 : Nat) ≠ 47 by decide)
          · exact Nat.ne_of_gt (Nat.lt_trans (UD _ m47).1 lc2)
          · exact Nat.ne_of_gt (Nat.lt_trans (show (47 : Nat) < 54 by decide) lA54)
        · obtain ⟨e, he, rfl⟩ := List.mem_map.mp hp
          exact Nat.ne_of_gt (Nat.lt_trans (show (47 : Nat) < 54 by decide) (aft.far e he))
      rcases List.mem_append.mp hp with hp | hp
      · simp only [List.mem_cons, List.not_mem_nil, or_false] at hp
        rcases hp with rfl | rfl | rfl
        · exact (UD _ m54).2
        · exact rc2.symm
        · exact (UD _ mAA).2
      · obtain ⟨e, he, rfl⟩ := List.mem_map.mp hp
        exact (UD _ (mDs e he)).2
    try dsimp only
    clear lN7 ND KD
    (repeat' (first | (k_unfold; (try dsimp only)) | ((fail_if_success (with_reducible first | show wpAny _ _ (PySem.call (Value.ref _) _) _ _ _ | show wpAny _ _ (pyIter (Value.ref _)) _ _ _ | show wpAny _ _ (exec (Stmt.For _ _ _ _ _) _) _ _ _ | show LCg.CompSrc _ _ _ _ _ _ _ _ _ _ _ _ _ _ | show LCg.CompEnd _ _ _ _ _ _ _ _ _ _ _ _ _ _ | show wpAny _ _ (eval (Expr.ListComp _ _ _ _) _) _ _ _ | show wpAny _ _ (eval (Expr.DictComp _ _ _ _ _) _) _ _ _ | show wpAny _ _ (exec (Stmt.Assign _ (Expr.ListComp _ _ _ _) _) _) _ _ _ | show wpAny _ _ (exec (Stmt.Assign _ (Expr.DictComp _ _ _ _ _) _) _) _ _ _ | show _ ≤ _)); (first | walk1 | (dsimp only; walk1)) <;> (try dsimp only)) | (leave1; try dsimp only) | fail "no step"))
    (rename Fr _ _ _ _ => lF8)
    refine lclosed (o := town (pes.map PE.nf)) (s1 := 4 - a4.fmod 8) (by (first | lia | omega)) (by (first | lia | omega)) q2 h2a lA54 h2b hdA aft hdsC _ _ _ _ _ _ _ _ _ _ _ _ _ _ _ [(RD, lstC out kD), (47, tab47 c1)] _ _ BB lF8 XX N3 apC TT rfl ⟨hc51, hc58⟩ (by decide) (by decide) ?_
    intro bC RC nC hC tkC UC neC FC NC hpC
    obtain ⟨outC, kC, hoC, rfl⟩ := hpC
    try dsimp only
    clear N3
    simp only [List.cons_append, List.nil_append] at NC
    (repeat' (first | (k_unfold; (try dsimp only)) | ((fail_if_success (with_reducible first | show wpAny _ _ (PySem.call (Value.ref _) _) _ _ _ | show wpAny _ _ (pyIter (Value.ref _)) _ _ _ | show wpAny _ _ (exec (Stmt.For _ _ _ _ _) _) _ _ _ | show wpAny _ _ (subscriptTail _ _ _ _) _ _ _ | show DEnd _ _ _ _ _ _ _ _ _ _ _ _ _ _ | show wpAny _ _ (setItem _ _ _) _ _ _ | show wpAny _ _ (getItem _ _) _ _ _ | show LCg.CompSrc _ _ _ _ _ _ _ _ _ _ _ _ _ _ | show LCg.CompEnd _ _ _ _ _ _ _ _ _ _ _ _ _ _ | show wpAny _ _ (eval (Expr.ListComp _ _ _ _) _) _ _ _ | show wpAny _ _ (eval (Expr.DictComp _ _ _ _ _) _) _ _ _ | show wpAny _ _ (exec (Stmt.Assign _ (Expr.ListComp _ _ _ _) _) _) _ _ _ | show wpAny _ _ (exec (Stmt.Assign _ (Expr.DictComp _ _ _ _ _) _) _) _ _ _ | show _ ≤ _)); (first | walk1 | (dsimp only; walk1)) <;> (try dsimp only)) | (leave1; try dsimp only) | fail "no step"))
    (rename Fr _ _ _ _ => lFs); (rename News _ _ _ _ => lNs)
    refine' rev_tail (s := ⟨_, _, _, _, _⟩) lFs lNs (isL lNs (by (with_reducible repeat' first | exact List.mem_cons_self .. | refine List.mem_cons_of_mem _ ?_))) hoC ?h ?hs ?hz
    case hs => with_unfolding_all rfl
    case hz =>
      rw [List.size_toArray, hoC.length]
      exact (by decide : 5 ≤ sizeLine)
    intro DV wv hV FV NV hwv
    try dsimp only
    rw [show (1 : Int) - (a4.fmod 8 - 3) = 4 - a4.fmod 8 by (first | lia | omega), out_is hp3] at hout
    refine kqd_eq_same NV (a := RD) (b := DV) (by (with_reducible repeat' first | exact List.mem_cons_self .. | refine List.mem_cons_of_mem _ ?_)) hout (by (with_reducible repeat' first | exact List.mem_cons_self .. | refine List.mem_cons_of_mem _ ?_)) hwv ?hu ?_
    case hu =>
      try simp only [units_deeper, units_caller]
      decide
    try dsimp only
    walk1
    · first
        | kc_close
        | (refine goodW_bool (by assumption) (by assumption) (raisesW_false ?zr) ?zp; (case' zr => trace_state; wrow_none_raised); (case' zp => kc_post))
    · repeat' (first | exact True.intro | refine And.intro (GrownAt.of (by k_asm) (by k_mem)) ?_)
    done)
end
end
end
end
end
end
end Mine
theorem PySem.Challenge.cw_wy0040_01_holds : PySem.Challenge.rw_wy0040_01.Holds :=
  Mine.lawW
