import PyProof.Rows.All
import Wide.All
import OpenK.AllK
import Wide.FinOn
import PySem.Challenge.RW_sw0077_01
open PySem PySem.W PyProof.Rows
set_option Elab.async false
set_option maxRecDepth 100000
set_option maxHeartbeats 4000000
set_option compiler.extract_closed false
set_option genInjectivity false
set_option genSizeOfSpec false
namespace Mine
def pickB (l : List Stmt) : List Stmt := (l.take 2) ++ ((l.drop 3).take 3) ++ ((l.drop 7).take 7) ++ ((l.drop 15).take 3) ++ ((l.drop 19).take 1) ++ (l.drop 21)
noncomputable def viewB : {b : List Stmt // pickB PySem.Challenge.pw_sw0077_01.main.body = b} := ⟨[_, _, _, _, _, _, _, _, _, _, _, _, _, _, _, _, _, _, _, _, _, _], by with_unfolding_all rfl⟩
noncomputable def view : Program := { PySem.Challenge.pw_sw0077_01 with main := { PySem.Challenge.pw_sw0077_01.main with body := viewB.1 } }
theorem said : OpenLaw.wellSaid PySem.Challenge.rw_sw0077_01 = true := by
  try rewrite [PySem.W.Fast.te9446332074065402090]
  kernel_rfl
end Mine
local macro_rules | `(tactic| o_law) => `(tactic| refine holds_law Mine.said fun said => ?_)
set_option hygiene false in
local macro_rules | `(tactic| o_head $H) => `(tactic| (
  first
  | refine holds_open (q := Mine.view) (loose := [Str.ofString "tspecials", Str.ofString "_name_disallowed_re", Str.ofString "_value_disallowed_re", Str.ofString "_formatparam"]) (Xt := fun s => xlAt Mine.view [] s && recOk (RowW.records PySem.Challenge.rw_sw0077_01.row.toRowW) s) (XP := XL Mine.view []) (Yf := Hook.obs $H) (Ya := Hook.val $H) (YP := Hook.says $H) (N := 3224) ?hl (Hook.of $H) (Hook.keeps $H) (fun s e => xl_of s (Bool.and_eq_true_iff.mp e).1) XL.keeps (by rfl) (by rfl) (by rfl) (fun s e => recFacts_of (Bool.and_eq_true_iff.mp e).2) (by rfl) (by first | assumption | decide +kernel) (by decide +kernel) ⟨rfl, rfl, rfl, rfl, rfl, by decide +kernel⟩ ?hw ?hc
  case hl => (intro w; (try (unfold openEnds fencedOpening topFrom; rewrite [PySem.W.Fast.te14364793385576792824, PySem.W.Fast.te10274390034422433532, PySem.W.Fast.te14289696077712309145, PySem.W.Fast.te1435165496053646825, PySem.W.Fast.te14082659384304107361, PySem.W.Fast.te4187177175401517315, PySem.W.Fast.te5923862056798008813])); kernel_rfl)))
set_option maxHeartbeats 8000000 in
open_top hd for PySem.Challenge.rw_sw0077_01
namespace Mine
/-- the written part of the heap behind the top -/
noncomputable abbrev KF (w : World) : Frag := hd.heap_1 w.params
/-- what is read of the globals -/
structure Gl (w : World) (mg mb : Str → Option Value) (h : Heap) : Prop where
  X : (KF w).In h
  T : ∃ loose mean, Top topProg loose mean mg mb h
section
variable {w : World} {mg mb : Str → Option Value} {h h' : Heap}
theorem Gl.g (G : Gl w mg mb h) : h.Ns mainGlobals mg := let ⟨_, _, T⟩ := G.T; T.g
theorem Gl.b (G : Gl w mg mb h) : h.Ns builtinsNs mb := let ⟨_, _, T⟩ := G.T; T.b
theorem Gl.nolimit (G : Gl w mg mb h) : h.NoLimit := let ⟨_, _, T⟩ := G.T; T.nolimit
theorem Gl.nodigits (G : Gl w mg mb h) : ∃ mc, h.Ns cStatics mc ∧ mc "sys.int_max_str_digits" = none := let ⟨_, _, T⟩ := G.T; T.nodigits
theorem Gl.builtins (G : Gl w mg mb h) : ∀ x : Str, x ≠ "__name__" → mb x = bootBuiltins x := let ⟨_, _, T⟩ := G.T; T.builtins
theorem Gl.bmain (G : Gl w mg mb h) : ∃ bm ob, mg "__builtins__" = some (.ref bm) ∧ bm ≠ builtinsNs ∧ h.get? bm = some ob ∧ ob.cls = .type "module" ∧ ob.dict = some builtinsNs ∧ ob.data = .plain := let ⟨_, _, T⟩ := G.T; T.bmain
theorem Gl.keeps (G : Gl w mg mb h) (hk : ∀ b o, h.get? b = some o → h'.get? b = some o) : Gl w mg mb h' :=
  ⟨G.X.keeps hk, let ⟨a, b, T⟩ := G.T; ⟨a, b, T.keeps hk⟩⟩
/-- an object that no such fact is about changes -/
theorem Gl.but (G : Gl w mg mb h) {as : List Addr} (ha : ∀ D ∈ as, (KF w).lookup D = none ∧ ∃ o, h.get? D = some o ∧ (∀ es n, o.data ≠ .dict es n) ∧ o.data ≠ .plain) (k : ∀ b o, b ∉ as → h.get? b = some o → h'.get? b = some o) : Gl w mg mb h' := by
  have ns : ∀ {a mm}, h.Ns a mm → h'.Ns a mm := fun ⟨o, es, ep, e, d, r⟩ => ⟨o, es, ep, k _ _ (fun q => by
    obtain ⟨_, o', e', d', _⟩ := ha _ q
    rw [e'] at e; cases e; exact d' _ _ d) e, d, r⟩
  refine ⟨fun a o e => k _ _ (fun q => by rw [(ha _ q).1] at e; cases e) (G.X a o e), ?_⟩
  obtain ⟨lo, mean, T⟩ := G.T
  exact ⟨lo, mean, ns T.g, ns T.b, let ⟨mc, a, b⟩ := T.nolimit; ⟨mc, ns a, b⟩, let ⟨mc, a, b⟩ := T.nodigits; ⟨mc, ns a, b⟩,
    fun d hd => absurd (show d ∈ ([] : List DefRec) from hd) List.not_mem_nil, fun o ho => absurd (show o ∈ ([] : List OwnSpec) from ho) List.not_mem_nil, T.const, T.free, T.builtins,
    fun d hd => absurd (show d ∈ ([] : List DefRec) from hd) List.not_mem_nil,
    let ⟨bm, ob, a1, a2, a3, a4, a5, a6⟩ := T.bmain; ⟨bm, ob, a1, a2, k _ _ (fun q => by
      obtain ⟨_, o', e', _, d'⟩ := ha _ q
      rw [e'] at a3; cases a3; exact d' a6) a3, a4, a5, a6⟩, fun e => absurd (show false = true from e) Bool.false_ne_true⟩
end

/-- locals: the newest binding first -/
@[irreducible] def lk (l : List (Str × Value)) (y : Str) : Option Value := l.lookup y
theorem lk_eq (l : List (Str × Value)) : lk l = fun y => l.lookup y := by funext y; unfold lk; rfl
theorem lk_hit {x : Str} {v : Value} {l : List (Str × Value)} : lk ((x, v) :: l) x = some v := by unfold lk; simp
theorem lk_miss {x y : Str} {v : Value} {l : List (Str × Value)} {r : Option Value} (h : (x == y) = false) (q : lk l x = r) : lk ((y, v) :: l) x = r := by
  unfold lk at *; simp only [List.lookup_cons, h]; exact q
theorem lk_of {x : Str} {l : List (Str × Value)} {r : Option Value} (q : l.lookup x = r) : lk l x = r := by unfold lk; exact q
theorem lk_put {x : Str} {v : Value} {l : List (Str × Value)} : (fun y => if y = x then some v else lk l y) = lk ((x, v) :: l) := by
  funext y
  unfold lk
  rw [List.lookup_cons]
  by_cases h : y = x
  · subst h; simp
  · have : (y == x) = false := by simpa using h
    rw [if_neg h, this]

/-- a def's record in the written part -/
noncomputable def fdAt (w : World) (f : Addr) : FuncData := match (KF w).lookup f with
  | some ⟨_, _, .func fd, _⟩ => fd
  | _ => default
/-- a frame's environment -/
@[irreducible] def envG (nm : Str) (sc : Scope) (L f : Addr) (cd : Value) (cl : List (Str × Addr)) : Env := envX nm sc L f cd cl
theorem envG_eq (nm : Str) (sc : Scope) (L f : Addr) (cd : Value) (cl : List (Str × Addr)) : envG nm sc L f cd cl = envX nm sc L f cd cl := by unfold envG; rfl
/-- of a def of the top -/
noncomputable abbrev envF (w : World) (f L : Addr) : Env := envG (fdAt w f).qualname (fdAt w f).scope L f (fdAt w f).code []
/-- the kind of a name -/
def kindS (sc : Scope) (x : Str) : Option NameKind := sc.names.lookup x
def plainS (sc : Scope) : Bool := sc.kind == .function
theorem kind_S {sc : Scope} (h : plainS sc = true) : sc.kind = .function := by simpa [plainS] using h

/-- the rest of a block -/
def Sq (M : Model) (A : Around) (env : Env) (rest : List Stmt) (Q : Flow → Shared → Prop) (E : Value → Shared → Prop) (f : Flow) (s' : Shared) : Prop := match f with
  | .next => wpAny M A (execs rest env) Q E s'
  | f => Q f s'
/-- what a def's end hands on -/
def Rt (R : Result → Shared → Prop) (fl : Flow) (s' : Shared) : Prop := R (.ok (.ret (match fl with | .ret v => v | _ => .none))) s'
/-- an exception that leaves a def's frame -/
def Lv (M : Model) (A : Around) (env : Env) (R : Result → Shared → Prop) (e : Value) (s' : Shared) : Prop :=
  wpAny M (A.deeper env) (leaving env e) (fun _ s'' => R (.error e) s'') (fun e' s'' => R (.error e') s'') s'
/-- what a call asks of its caller -/
abbrev Cr (Q E : Value → Shared → Prop) : Result → Shared → Prop := fun r s' => match r with | .ok (.ret v) => Q v s' | .ok _ => False | .error e => E e s'
abbrev Ext (as : List Addr) (h h' : Heap) : Prop := ∀ b o, b ∉ as → h.get? b = some o → h'.get? b = some o

section
variable {M : Model} {A : Around} {E : Value → Shared → Prop} {s : Shared} {env : Env} {Q : Flow → Shared → Prop} {st : Stmt} {rest : List Stmt} {R : Result → Shared → Prop} {v : Value}
theorem ex_cons (h : wpAny M A (exec st env) (Sq M A env rest Q E) E s) : wpAny M A (execs (st :: rest) env) Q E s :=
  wpAny_execs_cons (wpAny_mono h (fun f s' h' => by cases f <;> exact h') fun _ _ x => x)
theorem sq_next (h : wpAny M A (execs rest env) Q E s) : Sq M A env rest Q E .next s := h
theorem sq_ret (h : Q (.ret v) s) : Sq M A env rest Q E (.ret v) s := h
theorem sq_brk (h : Q .brk s) : Sq M A env rest Q E .brk s := h
theorem sq_cont (h : Q .cont s) : Sq M A env rest Q E .cont s := h
theorem rt_ret (h : R (.ok (.ret v)) s) : Rt R (.ret v) s := h
theorem rt_next (h : R (.ok (.ret .none)) s) : Rt R .next s := h
end

section
variable {w : World} {mg mb : Str → Option Value}
/-- a call of a def without cells: its frame is new, all that stood is kept but what the ledger names -/
theorem enterP {prog : Program} {A : Around} {R : Result → Shared → Prop} {s : Shared} {name qual : Str} {params : Arguments} {body : List Stmt} {sc : Scope} {cl : List (Str × Addr)} {dV kV doc pm cdv ct : Value} {an : Option Addr} {fo : Obj} {f : Addr} {args : Args} (binds : List (Str × Value)) (hid : List (Addr × Obj))
    (hlim : s.heap.NoLimit) (hh : ∀ p ∈ hid, s.heap.get? p.1 = some p.2)
    (ho : s.heap.get? f = some fo) (hd : fo.data = .func (fnX name qual params body sc cl dV kV doc pm an cdv ct)) (hcd : s.heap.CodeRec cdv qual) (hroom : A.depth < recursionLimit)
    (hbind : BindsTo s (fnX name qual params body sc cl dV kV doc pm an cdv ct) args binds.reverse) (hloc : (binds.all fun x => decide (sc.names.lookup x.1 = some .local)) = true)
    (h : ∀ L h₁ tk, Fr (hideAll s.heap (hid.map (·.1))) L h₁ (lk binds) → News (hideAll s.heap (hid.map (·.1))) L h₁ hid → (∀ p ∈ hid, p.1 < L) →
      wpAny (model prog w) (A.deeper (envG qual sc L f cdv cl)) (execs body (envG qual sc L f cdv cl)) (Rt R) (Lv (model prog w) A (envG qual sc L f cdv cl) R) { s with heap := h₁, toks := tk })
    (hco : sc.isCoroutine = false) (hgen : sc.isGenerator = false) (hk : sc.kind = .function)
    (hcell : (sc.names.all fun x => !(x.2 == .cell)) = true) : codeAny (model prog w) A (.call (.ref f) args) R s := by
  refine codeAny_call_def (fd := fnX name qual params body sc cl dV kV doc pm an cdv ct) (body := body) (binds := binds.reverse) hroom ho hd hlim hcd rfl hbind (fun x hx e => by have := List.all_eq_true.mp hcell x hx; rw [e] at this; cases this)
    (fun x hx => locs hloc x (List.mem_reverse.mp hx)) (fun h₁ hns hk₁ => ?_) hco hgen hk
  rw [List.reverse_reverse] at hns
  have e := h s.heap.objs.size h₁ (s.toks + binds.reverse.length) ⟨by rw [lk_eq]; exact hns, fun b o e => hk₁ b o (of_hideAll _ e), Nat.le_of_eq (hideAll_size _ _)⟩
    (fun p hp => ⟨hk₁ _ _ (hh p hp), Nat.ne_of_lt (Heap.lt_size (hh p hp)), hideAll_none _ (List.mem_map_of_mem hp)⟩) fun p hp => Heap.lt_size (hh p hp)
  rw [envG_eq] at e
  exact e
theorem bindL_lk {kindOf : Str → Option NameKind} : ∀ {binds l : List (Str × Value)}, bindL kindOf binds (lk l) = lk ((binds.filter fun x => kindOf x.1 == some .local).reverse ++ l)
  | [], l => rfl
  | (n, v) :: r, l => by
    unfold bindL
    by_cases h : kindOf n = some .local
    · rw [if_pos h, lk_put, bindL_lk]
      simp [h]
    · rw [if_neg h, bindL_lk]
      simp [h]
theorem bindC_lk {kindOf : Str → Option NameKind} : ∀ {binds l : List (Str × Value)}, bindC kindOf binds (lk l) = lk ((binds.filter fun x => !(kindOf x.1 == some .local)).reverse ++ l)
  | [], l => rfl
  | (n, v) :: r, l => by
    unfold bindC
    by_cases h : kindOf n = some .local
    · rw [if_pos h, bindC_lk]
      simp [h]
    · rw [if_neg h, lk_put, bindC_lk]
      simp [h]
theorem lk_nil : lk [] = fun _ => none := by funext y; unfold lk; rfl
/-- a call of a def with cells -/
theorem enterC {prog : Program} {A : Around} {R : Result → Shared → Prop} {s : Shared} {name qual : Str} {params : Arguments} {body : List Stmt} {sc : Scope} {dV kV doc pm cdv ct : Value} {an : Option Addr} {fo : Obj} {f : Addr} {args : Args} (binds bl bc : List (Str × Value)) (cs : Addr → List (Str × Addr)) (hid : List (Addr × Obj))
    (hlim : s.heap.NoLimit) (hh : ∀ p ∈ hid, s.heap.get? p.1 = some p.2)
    (ho : s.heap.get? f = some fo) (hd : fo.data = .func (fnX name qual params body sc [] dV kV doc pm an cdv ct)) (hcd : s.heap.CodeRec cdv qual) (hroom : A.depth < recursionLimit)
    (hbind : BindsTo s (fnX name qual params body sc [] dV kV doc pm an cdv ct) args binds) (hbl : (binds.filter fun x => kindS sc x.1 == some .local).reverse = bl) (hbc : (binds.filter fun x => !(kindS sc x.1 == some .local)).reverse = bc) (hcs : ∀ L, cellsFrom (L + 1) sc.names [] = cs L)
    (hkind : (binds.all fun y => sc.names.lookup y.1 == some .local || sc.names.lookup y.1 == some .cell) = true)
    (hnd : ((cellsFrom 0 sc.names []).map (·.1)).Nodup)
    (h : ∀ L h₁ tk cells, Fr (hideAll s.heap (hid.map (·.1))) L h₁ (lk bl) → News (hideAll s.heap (hid.map (·.1))) L h₁ (cells ++ hid) → CellsAre (lk bc) (cs L) cells → (∀ p ∈ hid, p.1 < L) →
      wpAny (model prog w) (A.deeper (envG qual sc L f cdv (cs L))) (execs body (envG qual sc L f cdv (cs L))) (Rt R) (Lv (model prog w) A (envG qual sc L f cdv (cs L)) R) { s with heap := h₁, toks := tk })
    (hco : sc.isCoroutine = false) (hgen : sc.isGenerator = false) (hk : sc.kind = .function) : codeAny (model prog w) A (.call (.ref f) args) R s := by
  refine codeAny_call_function hroom ho hd hco hgen rfl hcd (hbind _ _ _ _ ?_)
  refine wpAny_newFunctionEnv_cells hk (kindsX hkind _) fun env' he s' x => ?_
  subst he
  refine ⟨hlim.keeps x.toInCall.keep, codeAny_func ?_⟩
  obtain ⟨h₁, tk, rfl, _⟩ := x.done
  have hk₁ := x.toInCall.keep
  have kd : (newEnv sc s.heap.objs.size mainGlobals (cellsFrom (s.heap.objs.size + 1) sc.names []) (qual ++ ".<locals>.") (some f) cdv none builtinsNs).kindOf = kindS sc := rfl
  obtain ⟨cells, NC, Y⟩ := Cl.news (h₀ := s.heap) (Nat.le_refl _) fun n c hm => ⟨x.cell n c (lookup_of_mem_nodup (cellsFrom_names sc.names 0 (s.heap.objs.size + 1) [] [] rfl ▸ hnd) hm), x.above n c hm⟩
  have ns := x.toInCall.ns
  have e1 : bindL (kindS sc) binds (fun _ => none) = lk bl := by rw [← lk_nil, bindL_lk, List.append_nil, hbl]
  have e2 : bindC (kindS sc) binds (fun _ => none) = lk bc := by rw [← lk_nil, bindC_lk, List.append_nil, hbc]
  have ns' : h₁.Ns s.heap.objs.size (lk bl) := by rw [← e1]; exact ns
  have Y' : CellsAre (lk bc) (cs s.heap.objs.size) cells := by rw [← e2, ← hcs]; exact Y
  have e := h s.heap.objs.size h₁ tk cells ⟨ns', fun b o e => hk₁ b o (of_hideAll _ e), Nat.le_of_eq (hideAll_size _ _)⟩ (fun p hp => by
    rcases List.mem_append.mp hp with hp | hp
    · refine ⟨(NC p hp).1, (NC p hp).2.1, ?_⟩
      cases q : (hideAll s.heap (hid.map (·.1))).get? p.1 with
      | none => rfl
      | some o => have := of_hideAll _ q; rw [(NC p hp).2.2] at this; cases this
    · exact ⟨hk₁ _ _ (hh p hp), Nat.ne_of_lt (Heap.lt_size (hh p hp)), hideAll_none _ (List.mem_map_of_mem hp)⟩) Y' fun p hp => Heap.lt_size (hh p hp)
  rw [envG_eq, ← hcs] at e
  exact e
/-- a call of a def of the top -/
theorem enter {prog : Program} {A : Around} {R : Result → Shared → Prop} {s : Shared} {name qual : Str} {params : Arguments} {body : List Stmt} {sc : Scope} {dV kV doc pm cdv ct oc : Value} {an od : Option Addr} {osl : Array (Option Value)} {f : Addr} {args : Args} (binds : List (Str × Value))
    (G : Gl w mg mb s.heap)
    (ho : (KF w).lookup f = some ⟨oc, od, .func (fnX name qual params body sc [] dV kV doc pm an cdv ct), osl⟩) (hcd : codeIn (KF w) cdv qual = true) (hroom : A.depth < recursionLimit)
    (hbind : BindsTo s (fnX name qual params body sc [] dV kV doc pm an cdv ct) args binds.reverse) (hloc : (binds.all fun x => decide (sc.names.lookup x.1 = some .local)) = true)
    (h : ∀ L h₁ tk, Fr s.heap L h₁ (lk binds) → News s.heap L h₁ [] →
      wpAny (model prog w) (A.deeper (envF w f L)) (execs body (envF w f L)) (Rt R) (Lv (model prog w) A (envF w f L) R) { s with heap := h₁, toks := tk })
    (hco : sc.isCoroutine = false) (hgen : sc.isGenerator = false) (hk : sc.kind = .function)
    (hcell : (sc.names.all fun x => !(x.2 == .cell)) = true) : codeAny (model prog w) A (.call (.ref f) args) R s := by
  have hf : fdAt w f = fnX name qual params body sc [] dV kV doc pm an cdv ct := by unfold fdAt; rw [ho]
  refine enterP binds [] G.nolimit (fun _ hp => nomatch hp) (G.X _ _ ho) rfl (codeRec_of G.X hcd) hroom hbind hloc (fun L h₁ tk F N _ => ?_) hco hgen hk hcell
  have e := h L h₁ tk F N
  unfold envF at e
  rw [hf] at e
  exact e

section
variable {prog : Program} {A : Around} {E : Value → Shared → Prop} {s : Shared} {h₀ : Heap} {L f : Addr} {l : List (Str × Value)} {news : List (Addr × Obj)} {x : Str} {pos : Pos} {v : Value} {Q : Value → Shared → Prop} {nm : Str} {sc : Scope} {cd : Value} {cl : List (Str × Addr)} {c : Addr} {o : Obj}
theorem nm_loc (F : Fr h₀ L s.heap (lk l)) (hp : plainS sc = true) (hk : kindS sc x = some .local) (hd : (x == ("__debug__" : Str)) = false) (hv : lk l x = some v) (h : Q v s) :
    wpAny (model prog w) A (eval (.Name x pos) (envG nm sc L f cd cl)) Q E s := by
  rw [envG_eq]
  exact nameX_L F hv h (kind_S hp) hk hd
theorem ldn_loc (F : Fr h₀ L s.heap (lk l)) (hp : plainS sc = true) (hk : kindS sc x = some .local) (hv : lk l x = some v) (h : Q v s) :
    wpAny (model prog w) A (loadName (envG nm sc L f cd cl) x) Q E s := by
  rw [envG_eq]
  exact wpAny_loadName_local (kind_S hp) hk F.ns hv h
theorem st_loc {Q : Unit → Shared → Prop} (F : Fr h₀ L s.heap (lk l)) (N : News h₀ L s.heap news) (hp : plainS sc = true) (hk : kindS sc x = some .local)
    (h : ∀ h' tk', Fr h₀ L h' (lk ((x, v) :: l)) → News h₀ L h' news → Q () { s with heap := h', toks := tk' }) : wpAny (model prog w) A (storeName (envG nm sc L f cd cl) x v) Q E s := by
  rw [envG_eq]
  exact storeX_L F N (fun h' F' N' => h h' _ (lk_put ▸ F') N') (kind_S hp) hk
theorem nm_glob (F : Fr h₀ L s.heap (lk l)) (G : Gl w mg mb h₀) (hp : plainS sc = true) (hk : kindS sc x = some .globalImplicit) (hd : (x == ("__debug__" : Str)) = false) (hv : nsIn (KF w) mainGlobals x = some (some v)) (h : Q v s) :
    wpAny (model prog w) A (eval (.Name x pos) (envG nm sc L f cd cl)) Q E s := by
  rw [envG_eq]
  exact Calls.Name_function_global (kind_S hp) hk (Calls.loadGlobal_global (env := envX nm sc L f cd cl) (G.g.keeps F.keep) (mg_of G.X G.g hv) h) hd
theorem nm_blt (F : Fr h₀ L s.heap (lk l)) (G : Gl w mg mb h₀) (hp : plainS sc = true) (hk : kindS sc x = some .globalImplicit) (hd : (x == ("__debug__" : Str)) = false) (hm : nsIn (KF w) mainGlobals x = some none) (hb : bootBuiltins x = some v)
    (hn : x ≠ "__name__") (h : Q v s) :
    wpAny (model prog w) A (eval (.Name x pos) (envG nm sc L f cd cl)) Q E s := by
  rw [envG_eq]
  exact Calls.Name_function_global (kind_S hp) hk (Calls.loadGlobal_builtin (env := envX nm sc L f cd cl) (G.g.keeps F.keep) (mg_none_of G.X G.g hm) (G.b.keeps F.keep) ((G.builtins x hn).trans hb) h) hd
theorem nm_cell (N : News h₀ L s.heap news) (hp : plainS sc = true) (hk : kindS sc x = some .cell) (hd : (x == ("__debug__" : Str)) = false) (hc : cl.lookup x = some c) (hm : (c, o) ∈ news) (ho : o.data = .cell (some v)) (h : Q v s) :
    wpAny (model prog w) A (eval (.Name x pos) (envG nm sc L f cd cl)) Q E s := by
  rw [envG_eq]
  exact nameX_C N hc hm ho h (kind_S hp) hk hd
theorem nm_free (N : News h₀ L s.heap news) (hp : plainS sc = true) (hk : kindS sc x = some .free) (hd : (x == ("__debug__" : Str)) = false) (hn : (x == ("__classdict__" : Str)) = false) (hc : cl.lookup x = some c) (hm : (c, o) ∈ news) (ho : o.data = .cell (some v)) (h : Q v s) :
    wpAny (model prog w) A (eval (.Name x pos) (envG nm sc L f cd cl)) Q E s := by
  rw [envG_eq]
  exact nameX_F N hc hm ho h (kind_S hp) hk hd hn
theorem nm_freeH (F : Fr h₀ L s.heap (lk l)) (hp : plainS sc = true) (hk : kindS sc x = some .free) (hd : (x == ("__debug__" : Str)) = false) (hn : (x == ("__classdict__" : Str)) = false) (hc : cl.lookup x = some c) (hm : h₀.IsCell c (some v)) (h : Q v s) :
    wpAny (model prog w) A (eval (.Name x pos) (envG nm sc L f cd cl)) Q E s := by
  rw [envG_eq]
  obtain ⟨o, ho, hd'⟩ := hm
  exact wpAny_Name (wpAny_loadName_free (kind_S hp) hk hc ⟨o, F.keep _ _ ho, hd'⟩ h hn) hd
theorem st_cell {Q : Unit → Shared → Prop} {v₀ : Option Value} {g : Obj → List (Addr × Obj)} (F : Fr h₀ L s.heap (lk l)) (N : News h₀ L s.heap news) (hp : plainS sc = true) (hk : kindS sc x = some .cell) (hc : cl.lookup x = some c) (U : UpdF c o news g) (hd : o.data = .cell v₀)
    (h : ∀ h' o', Fr h₀ L h' (lk l) → News h₀ L h' (g o') → o'.data = .cell (some v) → Q () { s with heap := h' }) : wpAny (model prog w) A (storeName (envG nm sc L f cd cl) x v) Q E s := by
  rw [envG_eq]
  exact storeX_C F N hc U hd h (kind_S hp) hk
end
end

def Row (h : Heap) (r : Addr) (f : Nat → Int) : Prop := ∃ cs : List Value, h.IsList r cs.toArray ∧ cs.length = 6 ∧ ∀ j, j < 6 → ∃ t, cs[j]? = some (.int (f j) t)
def Mat (h : Heap) (l : Addr) (W : Nat → Nat → Int) : Prop := ∃ vs : List Value, h.IsList l vs.toArray ∧ vs.length = 6 ∧ ∀ i, i < 6 → ∃ r, vs[i]? = some (.ref r) ∧ Row h r (W i)
theorem isList_keeps {h h' : Heap} {l : Addr} {items : Array Value} (hk : ∀ b o, h.get? b = some o → h'.get? b = some o) (x : h.IsList l items) : h'.IsList l items := stays_list hk x
theorem Row.keeps {h h' : Heap} {r : Addr} {f : Nat → Int} (x : Row h r f) (hk : ∀ b o, h.get? b = some o → h'.get? b = some o) : Row h' r f :=
  let ⟨cs, a, b⟩ := x; ⟨cs, isList_keeps hk a, b⟩
theorem Mat.keeps {h h' : Heap} {l : Addr} {W : Nat → Nat → Int} (x : Mat h l W) (hk : ∀ b o, h.get? b = some o → h'.get? b = some o) : Mat h' l W :=
  let ⟨vs, a, b, c⟩ := x; ⟨vs, isList_keeps hk a, b, fun i hi => let ⟨r, d, e⟩ := c i hi; ⟨r, d, e.keeps hk⟩⟩
section
variable {prog : Program} {w : World} {A : Around} {E : Value → Shared → Prop} {s : Shared} {value slice : Expr} {Q : Value → Shared → Prop} {u : Tok}
theorem at_list {l : Addr} {vs : List Value} {k : Nat} {v : Value} (hl : s.heap.IsList l vs.toArray) (hk : k < 2 ^ 62) (hx : vs[k]? = some v) (h : Q v s)
    (hs : subscripted slice false (.ref l) (.int (k : Int) u) = operate [.ref l, .int (k : Int) u] (getItem (.ref l) (.int (k : Int) u)) := by with_unfolding_all rfl) :
    wpAny (model prog w) A (subscriptTail value slice (.ref l) (.int (k : Int) u)) Q E s :=
  tail_any hl.typeIs slot_list_getitem.lookup (wpAny_getItem_list hl (by omega) (by omega) (by simpa using hx) h) hs
theorem mat_at {h₀ : Heap} {L l : Addr} {m : Str → Option Value} {W : Nat → Nat → Int} {p : Nat} (M : Mat h₀ l W) (F : Fr h₀ L s.heap m) (hp : p < 6) (h : ∀ r, Row h₀ r (W p) → Q (.ref r) s)
    (hs : subscripted slice false (.ref l) (.int (p : Int) u) = operate [.ref l, .int (p : Int) u] (getItem (.ref l) (.int (p : Int) u)) := by with_unfolding_all rfl) :
    wpAny (model prog w) A (subscriptTail value slice (.ref l) (.int (p : Int) u)) Q E s := by
  obtain ⟨vs, a, b, c⟩ := M
  obtain ⟨r, d, e⟩ := c p hp
  exact at_list (isList_keeps F.keep a) (by omega) d (h r e) hs
theorem row_at {h₀ : Heap} {L l : Addr} {m : Str → Option Value} {f : Nat → Int} {p : Nat} (R : Row h₀ l f) (F : Fr h₀ L s.heap m) (hp : p < 6) (h : ∀ t, Q (.int (f p) t) s)
    (hs : subscripted slice false (.ref l) (.int (p : Int) u) = operate [.ref l, .int (p : Int) u] (getItem (.ref l) (.int (p : Int) u)) := by with_unfolding_all rfl) :
    wpAny (model prog w) A (subscriptTail value slice (.ref l) (.int (p : Int) u)) Q E s := by
  obtain ⟨cs, a, b, c⟩ := R
  obtain ⟨t, d⟩ := c p hp
  exact at_list (isList_keeps F.keep a) (by omega) d (h t) hs
end
/-- ints below 2 ^ k -/
@[irreducible] def Sm (k : Nat) (a : Int) : Prop := a.natAbs < 2 ^ k
theorem Sm.mul {j k : Nat} {a b : Int} (x : Sm j a) (y : Sm k b) : Sm (j + k) (a * b) := by
  unfold Sm at *
  rw [Int.natAbs_mul, Nat.pow_add]
  exact Nat.mul_lt_mul_of_lt_of_le x (Nat.le_of_lt y) (Nat.two_pow_pos k)
theorem Sm.add {k : Nat} {a b : Int} (x : Sm k a) (y : Sm k b) : Sm (k + 1) (a + b) := by
  unfold Sm at *
  have := Int.natAbs_add_le a b
  rw [Nat.pow_succ]; omega
theorem Sm.neg {k : Nat} {a : Int} (x : Sm k a) : Sm k (-a) := by unfold Sm at *; rwa [Int.natAbs_neg]
theorem Sm.sub {k : Nat} {a b : Int} (x : Sm k a) (y : Sm k b) : Sm (k + 1) (a - b) := by rw [Int.sub_eq_add_neg]; exact x.add y.neg
theorem Sm.le {j k : Nat} {a : Int} (x : Sm j a) (h : j ≤ k) : Sm k a := by
  unfold Sm at *
  exact Nat.lt_of_lt_of_le x (Nat.pow_le_pow_right (by decide) h)
theorem Sm.bits {k : Nat} {a : Int} (x : Sm k a) : Builtin.Int.intBits a ≤ k := by
  unfold Sm at x
  unfold Builtin.Int.intBits
  split
  · exact Nat.zero_le _
  · rename_i h
    have hp : a.natAbs ≠ 0 := by simpa using h
    have := (Nat.log2_lt hp).mpr x
    omega
theorem Sm.mulOk {j k : Nat} {a b : Int} (x : Sm j a) (y : Sm k b) (hj : j ≤ 2 ^ 20) (hk : k ≤ 2 ^ 20) : IntMulOk a b := IntMulOk.of_bits (Nat.le_trans x.bits hj) (Nat.le_trans y.bits hk)
theorem mul_sm {prog : Program} {w : World} {A : Around} {s : Shared} {a b : Int} {t u : Tok} {j k : Nat} {Q : Value → Shared → Prop} {E : Value → Shared → Prop} (x : Sm j a) (y : Sm k b) (hj : j ≤ 2 ^ 20) (hk : k ≤ 2 ^ 20)
    (h : Q (.int (a * b) s.toks) { s with toks := s.toks + 1 }) : wpAny (model prog w) A (binaryOp .Mult (.int a t) (.int b u)) Q E s := by
  refine AutoIntOps.mul_0 ?_ (x.mulOk y hj hk)
  exact h

/-! flat states -/
section
variable {prog : Program} {w : World} {A : Around} {E : Value → Shared → Prop} {hp : Heap} {gs : Array GenState} {dr : Drawn} {tk : Nat} {os : OsState} {env : Env} {Q : Value → Shared → Prop} {a b : Int} {t u : Tok}
theorem f_int {i : Int} {k : Nat} {pos : Pos} (h : Q (.int i tk) ⟨hp, gs, dr, tk + 1, os⟩) : wpAny (model prog w) A (eval (.Constant (.int i) k pos) env) Q E ⟨hp, gs, dr, tk, os⟩ := wpAny_Constant_int h
theorem f_str {i : Str} {k : Nat} {pos : Pos} (h : Q (.str i tk) ⟨hp, gs, dr, tk + 1, os⟩) : wpAny (model prog w) A (eval (.Constant (.str i) k pos) env) Q E ⟨hp, gs, dr, tk, os⟩ := Calls.Constant_str h
theorem f_none {k : Nat} {pos : Pos} (h : Q .none ⟨hp, gs, dr, tk, os⟩) : wpAny (model prog w) A (eval (.Constant .none k pos) env) Q E ⟨hp, gs, dr, tk, os⟩ := fun _ _ _ => h
theorem f_bool {b : Bool} {k : Nat} {pos : Pos} (h : Q (.bool b) ⟨hp, gs, dr, tk, os⟩) : wpAny (model prog w) A (eval (.Constant (.bool b) k pos) env) Q E ⟨hp, gs, dr, tk, os⟩ := fun _ _ _ => h
theorem f_add (h : Q (.int (a + b) tk) ⟨hp, gs, dr, tk + 1, os⟩) : wpAny (model prog w) A (binaryOp .Add (.int a t) (.int b u)) Q E ⟨hp, gs, dr, tk, os⟩ := add_int h
theorem f_sub (h : Q (.int (a - b) tk) ⟨hp, gs, dr, tk + 1, os⟩) : wpAny (model prog w) A (binaryOp .Sub (.int a t) (.int b u)) Q E ⟨hp, gs, dr, tk, os⟩ := sub_int h
theorem f_mul {j k : Nat} (x : Sm j a) (y : Sm k b) (hj : j ≤ 2 ^ 20) (hk : k ≤ 2 ^ 20) (h : Q (.int (a * b) tk) ⟨hp, gs, dr, tk + 1, os⟩) : wpAny (model prog w) A (binaryOp .Mult (.int a t) (.int b u)) Q E ⟨hp, gs, dr, tk, os⟩ := mul_sm x y hj hk h
theorem f_iadd (h : Q (.int (a + b) tk) ⟨hp, gs, dr, tk + 1, os⟩) : wpAny (model prog w) A (inplaceOp .Add (.int a t) (.int b u)) Q E ⟨hp, gs, dr, tk, os⟩ := iadd_int h
theorem f_imul {j k : Nat} (x : Sm j a) (y : Sm k b) (hj : j ≤ 2 ^ 20) (hk : k ≤ 2 ^ 20) (h : Q (.int (a * b) tk) ⟨hp, gs, dr, tk + 1, os⟩) : wpAny (model prog w) A (inplaceOp .Mult (.int a t) (.int b u)) Q E ⟨hp, gs, dr, tk, os⟩ :=
  AutoIntOps.imul_0 h (x.mulOk y hj hk)
theorem f_bits (h : Q (.int (Builtin.Int.intBits a) tk) ⟨hp, gs, dr, tk + 1, os⟩) : wpAny (model prog w) A (call (.builtin "int.bit_length") [.int a t]) Q E ⟨hp, gs, dr, tk, os⟩ := call_int_bit_length h
variable {mg mb : Str → Option Value} {h₀ : Heap} {L f : Addr} {l : List (Str × Value)} {news : List (Addr × Obj)} {x : Str} {v : Value}
theorem f_st {nm : Str} {sc : Scope} {cd : Value} {cl : List (Str × Addr)} {Q : Unit → Shared → Prop} (F : Fr h₀ L hp (lk l)) (N : News h₀ L hp news) (hpl : plainS sc = true) (hk : kindS sc x = some .local)
    (h : ∀ h' tk', Fr h₀ L h' (lk ((x, v) :: l)) → News h₀ L h' news → Q () ⟨h', gs, dr, tk', os⟩) : wpAny (model prog w) A (storeName (envG nm sc L f cd cl) x v) Q E ⟨hp, gs, dr, tk, os⟩ :=
  st_loc (s := ⟨hp, gs, dr, tk, os⟩) F N hpl hk h

theorem f_callN {x : Str} {p pos : Pos} {args : List Expr}
    (h : wpAny (model prog w) A (eval (.Name x p) env) (fun f s₁ => wpAny (model prog w) A (callWith pos f [] (backTo pos (starEach args env)) []) Q E s₁) E ⟨hp, gs, dr, tk, os⟩) :
    wpAny (model prog w) A (eval (.Call (.Name x p) args [] pos) env) Q E ⟨hp, gs, dr, tk, os⟩ := Call_Name rfl h
/-- a call by the written part, its arguments read -/
def Cw (w : World) (M : Model) (A : Around) (v : Value) (Q : Value → Shared → Prop) (E : Value → Shared → Prop) (vs : List Value) (s : Shared) : Prop := (KF w).In s.heap ∧ wpAny M A (call v vs) Q E s
theorem cw_ {M : Model} {v : Value} {vs : List Value} {s : Shared} {m : Str → Option Value} (G : Gl w mg mb h₀) (F : Fr h₀ L s.heap m) (h : wpAny M A (call v vs) Q E s) : Cw w M A v Q E vs s := ⟨G.X.keeps F.keep, h⟩
theorem f_cw {e : Expr} {rest : List Expr} {pos : Pos} {v : Value} (G : Gl w mg mb h₀) (hk : keepIn (KF w) v = true)
    (he : starEach (e :: rest) env = (false, eval e env) :: starEach rest env) (hplain : (backTo pos (starEach rest env)).any (·.1) = false)
    (h : wpAny (model prog w) A (spliced (backTo pos (starEach (e :: rest) env))) (Cw w (model prog w) A v Q E) E ⟨hp, gs, dr, tk, os⟩) :
    wpAny (model prog w) A (callWith pos v [] (backTo pos (starEach (e :: rest) env)) []) Q E ⟨hp, gs, dr, tk, os⟩ :=
  callWith_K (first := []) G.X hk (wpAny_mono h (fun _ _ q => q) fun _ _ x => x) he hplain
end
theorem fr_ext {h₀ h h' : Heap} {L : Addr} {m : Str → Option Value} {as : List Addr} (F : Fr h₀ L h m) (ha : ∀ a ∈ as, a ≠ L ∧ h₀.get? a = none) (k : Ext as h h') : Fr h₀ L h' m := by
  obtain ⟨⟨o, es, ep, e, r⟩, kp, ab⟩ := F
  exact ⟨⟨o, es, ep, k _ _ (fun q => (ha _ q).1 rfl) e, r⟩, fun b o e => k _ _ (fun q => by rw [(ha _ q).2] at e; cases e) (kp b o e), ab⟩
theorem news_ext {h₀ h h' : Heap} {L : Addr} {news news' : List (Addr × Obj)} {as : List Addr} (N : News h₀ L h news) (k : Ext as h h')
    (hn : ∀ p ∈ news', (p ∈ news ∧ p.1 ∉ as) ∨ (h'.get? p.1 = some p.2 ∧ ∃ o, (p.1, o) ∈ news)) : News h₀ L h' news' := fun p hp => by
  rcases hn p hp with ⟨q, r⟩ | ⟨q, o, r⟩
  · exact ⟨k _ _ r (N p q).1, (N p q).2⟩
  · exact ⟨q, (N _ r).2⟩
theorem news_keep {h₀ h h' : Heap} {L : Addr} {news : List (Addr × Obj)} (N : News h₀ L h news) (k : ∀ b o, h.get? b = some o → h'.get? b = some o) : News h₀ L h' news := fun p hp => ⟨k _ _ (N p hp).1, (N p hp).2⟩
end Mine
local macro_rules | `(tactic| walk_at "execs cons") => `(tactic| refine Mine.ex_cons ?_)
local macro_rules | `(tactic| walk_at "Sq") => `(tactic| first | refine Mine.sq_next ?_ | refine Mine.sq_ret ?_ | refine Mine.sq_brk ?_ | refine Mine.sq_cont ?_)
local macro_rules | `(tactic| walk_at "Rt ret") => `(tactic| refine Mine.rt_ret ?_)
local macro_rules | `(tactic| walk_at "Rt next") => `(tactic| refine Mine.rt_next ?_)
local macro_rules | `(tactic| walk_at "eval Name") => `(tactic| (refine Mine.nm_freeH (by assumption) (by kernel_rfl) (by kernel_rfl) (by decide) (by decide) (by assumption) (by assumption) ?_))
local macro_rules | `(tactic| walk_at "eval Name") => `(tactic| (refine Mine.nm_blt (by assumption) (by assumption) (by kernel_rfl) (by kernel_rfl) (by decide) (by kernel_rfl) (by boot_fast) (by decide) ?_))
local macro_rules | `(tactic| walk_at "eval Name") => `(tactic| (refine Mine.nm_glob (by assumption) (by assumption) (by kernel_rfl) (by kernel_rfl) (by decide) (by with_unfolding_all rfl) ?_))
local macro_rules | `(tactic| walk_at "eval Name") => `(tactic| (refine Mine.nm_loc (by assumption) (by kernel_rfl) (by kernel_rfl) (by decide) (by first | exact Mine.lk_hit | exact Mine.lk_of (by with_unfolding_all rfl)) ?_))
local macro_rules | `(tactic| walk_at "loadName") => `(tactic| (refine Mine.ldn_loc (by assumption) (by kernel_rfl) (by kernel_rfl) (by first | exact Mine.lk_hit | exact Mine.lk_of (by with_unfolding_all rfl)) ?_))
local macro_rules | `(tactic| walk_at "storeName") => `(tactic| (refine Mine.f_st (by assumption) (by assumption) (by kernel_rfl) (by kernel_rfl) ?_; intro _ _ _ _))
local macro_rules | `(tactic| walk_at "exec Assign cons") => `(tactic| first | refine wpAny_Assign_Name (hs := by kernel_rfl) ?_ | refine wpAny_Assign_Subscript (hs := by kernel_rfl) ?_)
local macro_rules | `(tactic| walk_at "exec Return some") => `(tactic| refine wpAny_Return_some ?_)
local macro_rules | `(tactic| walk_at "eval BinOp") => `(tactic| refine wpAny_BinOp ?_)
local macro_rules | `(tactic| walk_at "eval Subscript") => `(tactic| refine Subscript_ ?_)
local macro_rules | `(tactic| walk_at "eval Constant int") => `(tactic| refine Mine.f_int ?_)
local macro_rules | `(tactic| walk_at "eval Constant str") => `(tactic| refine Mine.f_str ?_)
local macro_rules | `(tactic| walk_at "binaryOp Add int int") => `(tactic| refine Mine.f_add ?_)
local macro_rules | `(tactic| walk_at "binaryOp Sub int int") => `(tactic| refine Mine.f_sub ?_)

local macro_rules | `(tactic| walk_at "eval Call") => `(tactic| first | refine Mine.f_callN ?_ | refine MethodCall_ (he := by with_unfolding_all rfl) ?_ | refine Call_ (he := by with_unfolding_all rfl) ?_)
local macro_rules | `(tactic| walk_at "spliced") => `(tactic| first | refine args_nil ?_ | refine args_cons (he := by kernel_rfl) ?_)
local macro_rules | `(tactic| walk_at "exec If") => `(tactic| refine wpAny_If ?_)
local macro_rules | `(tactic| walk_at "isTrue Compare") => `(tactic| refine wpAny_isTrue_Compare1 ?_)
local macro_rules | `(tactic| walk_at "eval Compare") => `(tactic| refine wpAny_Compare1 ?_)
local macro_rules | `(tactic| walk_at "itec") => `(tactic| first | decide | assumption | omega | ((simp only [decide_eq_true_eq, Bool.not_eq_true', decide_eq_false_iff_not, beq_iff_eq, bne_iff_ne, ne_eq, Bool.false_eq_true, not_false_eq_true]); done) | ((simp only [decide_eq_true_eq, Bool.not_eq_true', decide_eq_false_iff_not, beq_iff_eq, bne_iff_ne, ne_eq, Bool.false_eq_true, not_false_eq_true]); omega))
local macro_rules | `(tactic| walk_at "ite") => `(tactic| first
  | (refine' ite_pos ?hc ?_; (case hc => walk_at "itec"))
  | (refine' ite_neg ?hc ?_; (case hc => walk_at "itec")))
local macro_rules | `(tactic| walk_at "eval Constant none") => `(tactic| refine Mine.f_none ?_)
local macro_rules | `(tactic| walk_at "eval Constant bool") => `(tactic| refine Mine.f_bool ?_)
local macro_rules | `(tactic| walk_at "inplaceOp Add int int") => `(tactic| refine Mine.f_iadd ?_)
local macro_rules | `(tactic| walk_at "call builtin:int.bit_length") => `(tactic| refine Mine.f_bits ?_)

local macro_rules | `(tactic| walk_at "callWith") => `(tactic| first | refine callWith_method0 ?_ | refine callWith_method1 (he := by kernel_rfl) (hplain := by kernel_rfl) ?_ | refine callWith_type1 (he := by kernel_rfl) (hplain := by kernel_rfl) ?_ | refine callWith_type0 ?_)
local macro_rules | `(tactic| walk_at "callWith ref") => `(tactic| (refine Mine.f_cw (by assumption) (by with_unfolding_all rfl) (by kernel_rfl) (by kernel_rfl) ?_))
local macro_rules | `(tactic| walk_at "Cw") => `(tactic| (refine Mine.cw_ (by assumption) (by assumption) ?_; dsimp only [List.nil_append, List.cons_append]))

local macro_rules | `(tactic| walk_at "execs nil") => `(tactic| refine wpAny_execs_nil ?_)
local macro_rules | `(tactic| walk_at "exec Return none") => `(tactic| refine wpAny_Return_none ?_)
local macro_rules | `(tactic| walk_at "exec Expr") => `(tactic| refine wpAny_Expr_any (hi := by kernel_rfl) (hs := by kernel_rfl) ?_)
section
theorem Mine.freshT2 : True := by
  w_top off
  trivial
namespace Mine
variable {w : World} {mg mb : Str → Option Value}
local macro_rules | `(tactic| walk_at "subscriptTail") => `(tactic| first
  | (refine mat_at (by assumption) (by assumption) (by assumption) ?_; intro _ _)
  | (refine row_at (by assumption) (by assumption) (by assumption) ?_; intro _))
local macro_rules | `(tactic| walk_at "binaryOp Mult int int") => `(tactic| (refine f_mul (by with_reducible solve_by_elim) (by with_reducible solve_by_elim) (by decide) (by decide) ?_))
theorem four_spec {prog : Program} {A : Around} {s : Shared} {l : Addr} {W : Nat → Nat → Int} {p q x y : Nat} {t1 t2 t3 t4 : Tok} {Q : Value → Shared → Prop} {E : Value → Shared → Prop}
    (G : Gl w mg mb s.heap) (M : Mat s.heap l W) (hp : p < 6) (hq : q < 6) (hx : x < 6) (hy : y < 6) (hW : ∀ i j, Sm 100 (W i j)) (hroom : A.depth < recursionLimit)
    (h : ∀ t h' tk', Ext [] s.heap h' → Q (.int (W p q * W x y - W p x * W q y + W p y * W q x) t) { s with heap := h', toks := tk' }) :
    wpAny (model prog w) A (call (.ref 282) [.ref l, .int p t1, .int q t2, .int x t3, .int y t4]) Q E s := by
  refine wpAny_call (enter [("y", _), ("x", _), ("q", _), ("p", _), ("worths", _)] G rfl rfl hroom (.of_eq rfl) (by kernel_rfl) (fun L h₁ tk F N => ?_) rfl rfl rfl (by kernel_rfl))
  repeat walk1
  refine h _ _ _ ?_
  exact fun b o _ e => Fr.keep (by assumption) b o e
end Mine
end
section
theorem Mine.freshT4 : True := by
  w_top off
  trivial
namespace Mine
variable {w : World} {mg mb : Str → Option Value}
theorem Sm.noPylong {a b : Int} {k : Nat} (x : Sm k b) (hk : k ≤ 9000) : Builtin.divisionGoesByPylong a b = false := by
  refine PyProof.noPylong_of_log2 ?_
  unfold Sm at x
  by_cases h0 : b.natAbs = 0
  · rw [h0]; decide
  · have := (Nat.log2_lt h0).mpr x
    omega
local macro_rules | `(tactic| walk_at "call builtin:divmod") => `(tactic| (refine divmod_int (by assumption) ?_ (Or.inl (Sm.noPylong (by assumption) (by decide)))))
theorem div2n1n_spec {prog : Program} {A : Around} {s : Shared} {a b n : Int} {t1 t2 t3 : Tok} {Q : Value → Shared → Prop} {E : Value → Shared → Prop}
    (G : Gl w mg mb s.heap) (hb : b ≠ 0) (hs : Sm 1000 b) (hn : (Builtin.Int.intBits a : Int) - n ≤ 4000) (hroom : A.depth < recursionLimit)
    (h : ∀ r h' tk' t1 t2, Ext [] s.heap h' → IsTup h' r #[.int (a.fdiv b) t1, .int (a.fmod b) t2] → Q (.ref r) { s with heap := h', toks := tk' }) :
    wpAny (model prog w) A (call (.ref 66) [.int a t1, .int b t2, .int n t3]) Q E s := by
  refine wpAny_call (enter [("n", _), ("b", _), ("a", _)] G rfl rfl hroom (.of_eq rfl) (by kernel_rfl) (fun L h₁ tk F N => ?_) rfl rfl rfl (by kernel_rfl))
  repeat walk1
  refine h _ _ _ ?t1 ?t2 ?a ?b
  case b => exact IsTup.new _ _
  case a => exact fun b o _ e => Heap.get?_push_of_some _ (F.keep b o e)
end Mine
end
section
theorem Mine.freshT5 : True := by
  w_top off
  trivial
namespace Mine
variable {w : World} {mg mb : Str → Option Value}
/-! digits -/
def dig (n x i : Nat) : Nat := x / 2 ^ (n * i) % 2 ^ n
theorem and_low (x k : Nat) : x &&& (x / 2 ^ k * 2 ^ k) = x / 2 ^ k * 2 ^ k := by
  apply Nat.eq_of_testBit_eq
  intro i
  rw [Nat.testBit_and, ← Nat.shiftRight_eq_div_pow, ← Nat.shiftLeft_eq, Nat.testBit_shiftLeft, Nat.testBit_shiftRight]
  by_cases h : k ≤ i
  · have e : k + (i - k) = i := by omega
    simp [h, e]
  · simp [h]
theorem bitXor_low (x k : Nat) : Builtin.bitXor (x : Int) ((x / 2 ^ k * 2 ^ k : Nat) : Int) = ((x % 2 ^ k : Nat) : Int) := by
  rw [bitXor_and, bitAnd_pp (by omega) (by omega), Int.toNat_natCast, Int.toNat_natCast, and_low]
  have := Nat.div_add_mod x (2 ^ k)
  rw [Nat.mul_comm] at this
  omega
theorem dig_low {n x i m : Nat} (h : i < m) : dig n (x % 2 ^ (n * m)) i = dig n x i := by
  unfold dig
  have e : n * m = n * i + (n + n * (m - i - 1)) := by
    obtain ⟨d, rfl⟩ : ∃ d, m = i + 1 + d := ⟨m - i - 1, by omega⟩
    rw [show i + 1 + d - i - 1 = d by omega, Nat.mul_add, Nat.mul_add, Nat.mul_one]; omega
  rw [e, Nat.pow_add, Nat.mod_mul_right_div_self, Nat.pow_add, Nat.mod_mul_right_mod]
theorem dig_high {n x i m : Nat} : dig n (x / 2 ^ (n * m)) i = dig n x (m + i) := by
  unfold dig
  rw [Nat.div_div_eq_div_mul, ← Nat.pow_add, ← Nat.mul_add]
end Mine
end
section
theorem Mine.freshT6 : True := by
  w_top off
  trivial
namespace Mine
variable {w : World} {mg mb : Str → Option Value}
/-- a def within a def -/
structure NR where
  name : Str
  params : Arguments
  body : List Stmt
  sc : Scope
  pos : Pos
def nestOf (fd : FuncData) : NR := match fd.body with
  | .stmts b => (match b.find? (fun st => match st with | .FunctionDef .. => true | _ => false) with
    | some (.FunctionDef name params body _ _ _ sc _ _ pos) => ⟨name, params, body, sc, pos⟩
    | _ => ⟨Str.empty, default, [], default, default⟩)
  | _ => ⟨Str.empty, default, [], default, default⟩
noncomputable def fd80 (w : World) : { r : FuncData // fdAt w 80 = r } := ⟨⟨_, _, _, _, _, _, _, _, _, _, _, _, _, _, _⟩, rfl⟩
noncomputable def nr80 (w : World) : { r : NR // nestOf (fd80 w).1 = r } := ⟨⟨_, _, _, _, _⟩, rfl⟩
/-- a closure's object -/
def IsClos (h : Heap) (f : Addr) (r : NR) (cl : List (Str × Addr)) : Prop :=
  ∃ qual doc pm c' ctv fo, h.get? f = some fo ∧ fo.data = .func (fnX r.name qual r.params r.body r.sc cl .none .none doc pm none (.ref c') ctv) ∧ h.CodeRec (.ref c') qual
theorem IsClos.but {h h' : Heap} {f D : Addr} {r : NR} {cl : List (Str × Addr)} {its : Array Value} {m : Nat} (x : IsClos h f r cl) (hD : h.get? D = some (listOf its m)) (k : Ext [D] h h') : IsClos h' f r cl := by
  obtain ⟨qual, doc, pm, c', ctv, fo, e, d, c₀, o, vs, t, q1, q2, q3, q4⟩ := x
  refine ⟨qual, doc, pm, c', ctv, fo, k _ _ (fun q => ?_) e, d, c₀, o, vs, t, q1, k _ _ (fun q => ?_) q2, q3, q4⟩
  · rw [List.mem_singleton.mp q, hD] at e; cases e; cases d
  · rw [List.mem_singleton.mp q, hD] at q2; cases q2; cases q3
theorem IsClos.keeps {h h' : Heap} {f : Addr} {r : NR} {cl : List (Str × Addr)} (x : IsClos h f r cl) (k : ∀ b o, h.get? b = some o → h'.get? b = some o) : IsClos h' f r cl := by
  obtain ⟨qual, doc, pm, c', ctv, fo, e, d, q⟩ := x
  exact ⟨qual, doc, pm, c', ctv, fo, k _ _ e, d, q.keeps k⟩
theorem cell_but {h h' : Heap} {c D : Addr} {v : Option Value} {its : Array Value} {m : Nat} (x : h.IsCell c v) (hD : h.get? D = some (listOf its m)) (k : Ext [D] h h') : h'.IsCell c v := by
  obtain ⟨o, e, d⟩ := x
  refine ⟨o, k _ _ (fun q => ?_) e, d⟩
  rw [List.mem_singleton.mp q, hD] at e; cases e; cases d
theorem ext_hide {h : Heap} {D : Addr} : Ext [D] h (hideAll h [D]) := fun _ _ hb e => hideAll_get _ e hb
theorem Gl.list {h h' : Heap} {D : Addr} {its : Array Value} {m : Nat} (G : Gl w mg mb h) (hK : (KF w).lookup D = none) (hD : h.get? D = some (listOf its m)) (k : Ext [D] h h') : Gl w mg mb h' :=
  G.but (fun a ha => by rw [List.mem_singleton.mp ha]; exact ⟨hK, _, hD, (fun _ _ e => by cases e), fun e => by cases e⟩) k
section
variable {prog : Program} {A : Around} {E : Value → Shared → Prop} {hp : Heap} {gs : Array GenState} {dr : Drawn} {tk : Nat} {os : OsState} {Q : Value → Shared → Prop} {a b : Nat} {x y : Int} {t u : Tok}
theorem f_addE {c : Int} (e : x + y = c) (h : Q (.int c tk) ⟨hp, gs, dr, tk + 1, os⟩) : wpAny (model prog w) A (binaryOp .Add (.int x t) (.int y u)) Q E ⟨hp, gs, dr, tk, os⟩ := f_add (e ▸ h)
theorem f_subE {c : Int} (e : x - y = c) (h : Q (.int c tk) ⟨hp, gs, dr, tk + 1, os⟩) : wpAny (model prog w) A (binaryOp .Sub (.int x t) (.int y u)) Q E ⟨hp, gs, dr, tk, os⟩ := f_sub (e ▸ h)
theorem f_shr (hb : 0 ≤ y) (h : Q (.int (x.fdiv (2 ^ y.toNat)) tk) ⟨hp, gs, dr, tk + 1, os⟩) : wpAny (model prog w) A (binaryOp .RShift (.int x t) (.int y u)) Q E ⟨hp, gs, dr, tk, os⟩ := rshift_int hb h
theorem f_shrN (h : Q (.int ((a / 2 ^ b : Nat) : Int) tk) ⟨hp, gs, dr, tk + 1, os⟩) : wpAny (model prog w) A (binaryOp .RShift (.int (a : Int) t) (.int (b : Int) u)) Q E ⟨hp, gs, dr, tk, os⟩ := by
  refine f_shr (by omega) ?_
  rw [Int.toNat_natCast, Int.fdiv_eq_ediv_of_nonneg _ (by exact_mod_cast Nat.zero_le _)]
  have e : ((a : Int) / 2 ^ b) = ((a / 2 ^ b : Nat) : Int) := by push_cast; rfl
  rw [e]; exact h
theorem f_shlN (hz : Builtin.Int.intBits (a : Int) + b ≤ 2 ^ 27) (h : Q (.int ((a * 2 ^ b : Nat) : Int) tk) ⟨hp, gs, dr, tk + 1, os⟩) : wpAny (model prog w) A (binaryOp .LShift (.int (a : Int) t) (.int (b : Int) u)) Q E ⟨hp, gs, dr, tk, os⟩ := by
  refine lshift_int (by omega) (by omega) ?_
  rw [Int.toNat_natCast]
  have e : ((a : Int) * 2 ^ b) = ((a * 2 ^ b : Nat) : Int) := by push_cast; rfl
  rw [e]; exact h
theorem f_int1 {env : Env} {k : Nat} {pos : Pos} (h : Q (.int ((1 : Nat) : Int) tk) ⟨hp, gs, dr, tk + 1, os⟩) : wpAny (model prog w) A (eval (.Constant (.int 1) k pos) env) Q E ⟨hp, gs, dr, tk, os⟩ := f_int h
theorem f_addN (h : Q (.int ((a + b : Nat) : Int) tk) ⟨hp, gs, dr, tk + 1, os⟩) : wpAny (model prog w) A (binaryOp .Add (.int (a : Int) t) (.int (b : Int) u)) Q E ⟨hp, gs, dr, tk, os⟩ := f_addE (by omega) h
theorem f_subN (e : b ≤ a) (h : Q (.int ((a - b : Nat) : Int) tk) ⟨hp, gs, dr, tk + 1, os⟩) : wpAny (model prog w) A (binaryOp .Sub (.int (a : Int) t) (.int (b : Int) u)) Q E ⟨hp, gs, dr, tk, os⟩ := f_subE (by omega) h
theorem f_mulN (hs : a < 2 ^ 60) (h : Q (.int ((a * b : Nat) : Int) tk) ⟨hp, gs, dr, tk + 1, os⟩) : wpAny (model prog w) A (binaryOp .Mult (.int (a : Int) t) (.int (b : Int) u)) Q E ⟨hp, gs, dr, tk, os⟩ := by
  refine AutoIntOps.mul_0 ?_ (IntMulOk.of_left (intBits_le_64 (by omega) (by omega)))
  rw [← Int.natCast_mul]
  exact h
theorem f_eqN (h : Q (.bool (decide (a = b))) ⟨hp, gs, dr, tk, os⟩) : wpAny (model prog w) A (compareOp .Eq (.int (a : Int) t) (.int (b : Int) u)) Q E ⟨hp, gs, dr, tk, os⟩ := by
  refine eq_int ?_
  have e : ((a : Int) == (b : Int)) = decide (a = b) := by
    by_cases q : a = b
    · subst q; simp
    · have : ¬ (a : Int) = (b : Int) := by omega
      simp [q, this]
  rw [e]; exact h
theorem f_xorLow (h : Q (.int ((a % 2 ^ b : Nat) : Int) tk) ⟨hp, gs, dr, tk + 1, os⟩) : wpAny (model prog w) A (binaryOp .BitXor (.int (a : Int) t) (.int ((a / 2 ^ b * 2 ^ b : Nat) : Int) u)) Q E ⟨hp, gs, dr, tk, os⟩ := by
  refine xor_int ?_
  rw [bitXor_low]
  exact h
theorem f_xor (h : Q (.int (Builtin.bitXor x y) tk) ⟨hp, gs, dr, tk + 1, os⟩) : wpAny (model prog w) A (binaryOp .BitXor (.int x t) (.int y u)) Q E ⟨hp, gs, dr, tk, os⟩ := xor_int h
theorem set_led {h₀ : Heap} {L D : Addr} {m : Str → Option Value} {news news' : List (Addr × Obj)} {its : Array Value} {n k : Nat} {v : Value} {Q : Unit → Shared → Prop} (F : Fr h₀ L hp m) (N : News h₀ L hp news) (U : Upd D (listOf its n) (listOf (its.setIfInBounds k v) n) news news')
    (hk : k < its.size) (hfit : k < 2 ^ 62) (h : ∀ h', Fr h₀ L h' m → News h₀ L h' news' → Q () ⟨h', gs, dr, tk, os⟩) :
    wpAny (model prog w) A (setItem (.ref D) (.int (k : Int) t) v) Q E ⟨hp, gs, dr, tk, os⟩ := by
  obtain ⟨pre, post, rfl, rfl, a, b⟩ := U.split
  have z := N (D, listOf its n) (List.mem_append.mpr (.inr (.head _)))
  refine ki_setAt z.1 (by omega) (by omega) (by omega) (h _ (F.change (Heap.SameBut.update ..) z.2.1 z.2.2) (ki_turn _ N a b ?_ ?_))
  · rw [Int.toNat_natCast]
  · simp
variable {env : Env} {h₀ : Heap} {L q : Addr} {m : Str → Option Value}
/-- a call of a function object that stands in the heap -/
def CwF (M : Model) (A : Around) (q : Addr) (Q : Value → Shared → Prop) (E : Value → Shared → Prop) (vs : List Value) (s : Shared) : Prop := FnAt q s.heap ∧ wpAny M A (call (.ref q) vs) Q E s
theorem fnAt_keeps {h h' : Heap} (x : FnAt q h) (k : ∀ b o, h.get? b = some o → h'.get? b = some o) : FnAt q h' := let ⟨a, b, c, d, e⟩ := x; ⟨a, b, c, d, k _ _ e⟩
theorem IsClos.fnAt {h : Heap} {f : Addr} {r : NR} {cl : List (Str × Addr)} (x : IsClos h f r cl) : FnAt f h := by
  obtain ⟨qual, doc, pm, c', ctv, ⟨oc, od, odt, osl⟩, e, d, _⟩ := x
  cases d
  exact ⟨_, _, _, _, e⟩
theorem cwF_ {M : Model} {vs : List Value} {s : Shared} (X : FnAt q h₀) (F : Fr h₀ L s.heap m) (h : wpAny M A (call (.ref q) vs) Q E s) : CwF M A q Q E vs s := ⟨fnAt_keeps X F.keep, h⟩
theorem f_cwF {e : Expr} {rest : List Expr} {pos : Pos} (X : FnAt q h₀) (F : Fr h₀ L hp m)
    (he : starEach (e :: rest) env = (false, eval e env) :: starEach rest env) (hplain : (backTo pos (starEach rest env)).any (·.1) = false)
    (h : wpAny (model prog w) A (spliced (backTo pos (starEach (e :: rest) env))) (CwF (model prog w) A q Q E) E ⟨hp, gs, dr, tk, os⟩) :
    wpAny (model prog w) A (callWith pos (.ref q) [] (backTo pos (starEach (e :: rest) env)) []) Q E ⟨hp, gs, dr, tk, os⟩ :=
  callWith_F (first := []) (fnAt_keeps X F.keep) (wpAny_mono h (fun _ _ q => q) fun _ _ x => x) he hplain
theorem sh_ok {x k s : Nat} (h : x < 2 ^ k) (hk : k ≤ 4000) (hs : s ≤ 4000) : Builtin.Int.intBits ((x / 2 ^ s : Nat) : Int) + s ≤ 2 ^ 27 := by
  have : Builtin.Int.intBits ((x / 2 ^ s : Nat) : Int) ≤ k := intBits_le_iff.mpr (by rw [Int.natAbs_natCast]; exact Nat.lt_of_le_of_lt (Nat.div_le_self _ _) h)
  omega
end
end Mine
end
section
theorem Mine.freshT7 : True := by
  w_top off
  trivial
namespace Mine
variable {w : World} {mg mb : Str → Option Value}
/-- between L and R the digits of x, the rest as it was -/
def DigIn (n x L R : Nat) (its its' : Array Value) : Prop :=
  its'.size = its.size ∧ (∀ i, i < L ∨ R ≤ i → its'[i]? = its[i]?) ∧ ∀ i, L ≤ i → i < R → ∃ t, its'[i]? = some (.int (dig n x (i - L) : Nat) t)
theorem DigIn.one {n x L : Nat} {its : Array Value} {t : Tok} (hx : x < 2 ^ (n * 1)) (hL : L < its.size) : DigIn n x L (L + 1) its (its.setIfInBounds L (.int (x : Nat) t)) := by
  refine ⟨by simp, fun i hi => ?_, fun i h1 h2 => ⟨t, ?_⟩⟩
  · rw [Array.getElem?_setIfInBounds]
    rw [if_neg (by omega)]
  · have : i = L := by omega
    subst this
    rw [Array.getElem?_setIfInBounds]
    simp only [if_true, hL]
    rw [Nat.sub_self]
    unfold dig
    rw [Nat.mul_zero, Nat.pow_zero, Nat.div_one, Nat.mod_eq_of_lt (by rwa [Nat.mul_one] at hx)]
theorem DigIn.two {n x L M R : Nat} {its its₁ its₂ : Array Value} (h1 : L < M) (h2 : M < R) (a : DigIn n (x % 2 ^ (n * (M - L))) L M its its₁) (b : DigIn n (x / 2 ^ (n * (M - L))) M R its₁ its₂) : DigIn n x L R its its₂ := by
  refine ⟨b.1.trans a.1, fun i hi => (b.2.1 i (by omega)).trans (a.2.1 i (by omega)), fun i q1 q2 => ?_⟩
  by_cases h : i < M
  · obtain ⟨t, e⟩ := a.2.2 i q1 h
    refine ⟨t, (b.2.1 i (.inl h)).trans (e.trans ?_)⟩
    rw [dig_low (by omega)]
  · obtain ⟨t, e⟩ := b.2.2 i (by omega) q2
    refine ⟨t, e.trans ?_⟩
    rw [dig_high, show M - L + (i - M) = i - L by omega]
local macro_rules | `(tactic| walk_at "eval Constant int") => `(tactic| refine f_int1 ?_)
local macro_rules | `(tactic| walk_at "binaryOp Add int int") => `(tactic| refine f_addN ?_)
local macro_rules | `(tactic| walk_at "binaryOp Sub int int") => `(tactic| refine f_subN (by omega) ?_)
local macro_rules | `(tactic| walk_at "binaryOp Mult int int") => `(tactic| refine f_mulN (by omega) ?_)
local macro_rules | `(tactic| walk_at "binaryOp RShift int int") => `(tactic| refine f_shrN ?_)
local macro_rules | `(tactic| walk_at "binaryOp BitXor int int") => `(tactic| refine f_xorLow ?_)
local macro_rules | `(tactic| walk_at "compareOp Eq int int") => `(tactic| refine f_eqN ?_)
local macro_rules | `(tactic| walk_at "binaryOp LShift int int") => `(tactic| refine f_shlN (by assumption) ?_)
local macro_rules | `(tactic| walk_at "callWith ref") => `(tactic| refine f_cwF (by assumption) (by assumption) (by kernel_rfl) (by kernel_rfl) ?_)
local macro_rules | `(tactic| walk_at "CwF") => `(tactic| refine cwF_ (by assumption) (by assumption) ?_)
theorem inner_spec {prog : Program} {f D cA cI cN n : Nat} {tn : Tok} {cl : List (Str × Addr)} (hn : n ≤ 400) (hcA : cl.lookup (Str.ofString "a_digits") = some cA) (hcI : cl.lookup (Str.ofString "inner") = some cI) (hcN : cl.lookup (Str.ofString "n") = some cN) (hKD : (KF w).lookup D = none) :
    ∀ (k : Nat) {A : Around} {s : Shared} {x L R ep : Nat} {its : Array Value} {t1 t2 t3 : Tok} {Q E : Value → Shared → Prop}, R - L = k + 1 → L < R → R ≤ its.size → R ≤ 10 → x < 2 ^ (n * (R - L)) → A.depth + k < recursionLimit →
      Gl w mg mb s.heap → IsClos s.heap f (nr80 w).1 cl → s.heap.IsCell cA (some (.ref D)) → s.heap.IsCell cI (some (.ref f)) → s.heap.IsCell cN (some (.int (n : Nat) tn)) → s.heap.get? D = some (listOf its ep) →
      (∀ h' tk' its', Ext [D] s.heap h' → h'.get? D = some (listOf its' ep) → DigIn n x L R its its' → Q .none { s with heap := h', toks := tk' }) →
      wpAny (model prog w) A (call (.ref f) [.int (x : Nat) t1, .int (L : Nat) t2, .int (R : Nat) t3]) Q E s := by
  intro k
  induction k using Nat.strongRecOn with
  | ind k ih =>
    intro A s x L R ep its t1 t2 t3 Q E hk hLR hR hR10 hx hroom G hf hA hI hN hD h
    obtain ⟨qual, doc, pm, c', ctv, fo, ho, hd, hcd⟩ := id hf
    refine wpAny_call (enterP (body := [_, _, _, _, _, _, _]) [("R", .int (R : Nat) t3), ("L", .int (L : Nat) t2), ("x", .int (x : Nat) t1)] [(D, listOf its ep)] G.nolimit (fun p hp => by cases hp with | head => exact hD | tail _ hp => cases hp) ho hd hcd (by omega) (.of_eq (by kernel_rfl)) (by kernel_rfl) (fun L' h₁ tk F N lD => ?_) (by kernel_rfl) (by kernel_rfl) (by kernel_rfl) (by kernel_rfl))
    have GH := G.list hKD hD ext_hide
    have hA' := cell_but hA hD ext_hide
    have hI' := cell_but hI hD ext_hide
    have hN' := cell_but hN hD ext_hide
    have hf' := hf.but hD ext_hide
    simp only [List.map_cons, List.map_nil] at F N
    by_cases h1 : L + 1 = R
    · subst h1
      repeat walk1
      rw [Nat.add_sub_cancel_left] at hx
      refine set_led F N (.head fun _ h => nomatch h) (by omega) (by omega) fun h₂ F₂ N₂ => ?_
      repeat walk1
      refine h _ _ _ ?_ (N₂ _ (.head _)).1 (.one hx (by omega))
      intro b o hb e
      exact F₂.keep _ _ (hideAll_get _ e hb)
    · have hL2 : L < (L + R) / 2 ^ 1 := by omega
      have hR2 : (L + R) / 2 ^ 1 < R := by omega
      have hfn := hf'.fnAt
      have hml : (L + R) / 2 ^ 1 - L ≤ 10 := by omega
      have hsl : ((L + R) / 2 ^ 1 - L) * n ≤ 4000 := Nat.le_trans (Nat.mul_le_mul hml hn) (by decide)
      have h10 : R - L ≤ 10 := by omega
      have hkl : n * (R - L) ≤ 4000 := Nat.le_trans (Nat.mul_le_mul hn h10) (by decide)
      have hz := sh_ok (s := ((L + R) / 2 ^ 1 - L) * n) hx hkl hsl
      repeat walk1
      rename_i F₁ N₁
      obtain ⟨d₁, hd₁⟩ : ∃ d, d = (L + R) / 2 ^ 1 - L - 1 := ⟨_, rfl⟩
      obtain ⟨d₂, hd₂⟩ : ∃ d, d = R - (L + R) / 2 ^ 1 - 1 := ⟨_, rfl⟩
      refine ih d₁ (by omega) (ep := ep) (its := its) (by omega) hL2 (by omega) (by omega) (by rw [Nat.mul_comm n]; exact Nat.mod_lt _ (Nat.two_pow_pos _)) (by show A.depth + 1 + d₁ < _; omega)
        (GH.keeps F₁.keep) (hf'.keeps F₁.keep) (hA'.keeps F₁.keep) (hI'.keeps F₁.keep) (hN'.keeps F₁.keep) (N₁ _ (.head _)).1 fun h₂ tk₂ its₁ k₂ hD₂ dg₁ => ?_
      have F₂ := fr_ext F₁ (fun a ha => by rw [List.mem_singleton.mp ha]; exact (N₁ _ (.head _)).2) k₂
      have N₂ : News (hideAll s.heap [D]) L' h₂ [(D, listOf its₁ ep)] := news_ext N₁ k₂ fun p hp => .inr (by cases List.mem_singleton.mp hp; exact ⟨hD₂, _, .head _⟩)
      repeat walk1
      refine ih d₂ (by omega) (ep := ep) (its := its₁) (by omega) hR2 (by rw [dg₁.1]; omega) (by omega) ?_ (by show A.depth + 1 + d₂ < _; omega)
        (GH.keeps F₂.keep) (hf'.keeps F₂.keep) (hA'.keeps F₂.keep) (hI'.keeps F₂.keep) (hN'.keeps F₂.keep) hD₂ fun h₃ tk₃ its₂ k₃ hD₃ dg₂ => ?_
      · rw [Nat.div_lt_iff_lt_mul (Nat.two_pow_pos _), ← Nat.pow_add, Nat.mul_comm ((L + R) / 2 ^ 1 - L), ← Nat.mul_add, show R - (L + R) / 2 ^ 1 + ((L + R) / 2 ^ 1 - L) = R - L by omega]
        exact hx
      have F₃ := fr_ext F₂ (fun a ha => by rw [List.mem_singleton.mp ha]; exact (N₁ _ (.head _)).2) k₃
      have N₃ : News (hideAll s.heap [D]) L' h₃ [(D, listOf its₂ ep)] := news_ext N₂ k₃ fun p hp => .inr (by cases List.mem_singleton.mp hp; exact ⟨hD₃, _, .head _⟩)
      repeat walk1
      refine h _ _ _ (fun b o hb e => F₃.keep _ _ (hideAll_get _ e hb)) hD₃ ?_
      rw [Nat.mul_comm ((L + R) / 2 ^ 1 - L)] at dg₁ dg₂
      exact .two hL2 hR2 dg₁ dg₂
end Mine
end
section
theorem Mine.freshT10 : True := by
  w_top off
  trivial
namespace Mine
variable {w : World} {mg mb : Str → Option Value}
/-- the table of the code objects made within a def: the inner def's is not there, or is -/
def TabOk (h : Heap) (P : Addr) (pos : Pos) (qual : Str) : Prop := ∃ ps, h.get? P = some (tabObj ps) ∧ TriplesOk ps.toList ∧ (codeAmong pos ps.toList = none ∨ ∃ c', codeAmong pos ps.toList = some (.ref c') ∧ c' ≠ P ∧ h.CodeRec (.ref c') qual)
theorem codeRec_ext {h h' : Heap} {c : Addr} {as : List Addr} {q : Str} (x : h.CodeRec (.ref c) q) (hc : c ∉ as) (k : Ext as h h') : h'.CodeRec (.ref c) q := by
  obtain ⟨c₀, o, vs, t, e, g, r⟩ := x
  cases e
  exact ⟨c, o, vs, t, rfl, k _ _ hc g, r⟩
/-- the globals' facts do not hang on a table -/
theorem Gl.tab {h h' : Heap} {P : Addr} {ps : Array Value} (G : Gl w mg mb h) (hK : (KF w).lookup P = none) (hP : h.get? P = some (tabObj ps)) (k : Ext [P] h h') : Gl w mg mb h' :=
  G.but (fun a ha => by rw [List.mem_singleton.mp ha]; exact ⟨hK, _, hP, (fun _ _ e => by cases e), fun e => by cases e⟩) k
section
variable {prog : Program} {A : Around} {E : Value → Shared → Prop} {hp : Heap} {gs : Array GenState} {dr : Drawn} {tk : Nat} {os : OsState} {h₀ : Heap} {L a c P : Addr} {m : Str → Option Value} {nm : Str} {sc0 : Scope} {cd : Value} {cl : List (Str × Addr)} {news : List (Addr × Obj)} {g : Obj → List (Addr × Obj)}
  {name qual : Str} {params : Arguments} {body : List Stmt} {sc : Scope} {ps : Array Value} {pos : Pos} {clos : List (Str × Addr)}
/-- a def within a def is made -/
theorem make_clos {Q : Value → Shared → Prop} {line : Nat} (F : Fr h₀ L hp m) (N : News h₀ L hp news) (G : Gl w mg mb h₀) (C : CodeHd h₀ c P) (U : UpdF P (tabObj ps) news g) (ht : TriplesOk ps.toList)
    (hq : codeAmong pos ps.toList = none ∨ ∃ c', codeAmong pos ps.toList = some (.ref c') ∧ c' ≠ P ∧ h₀.CodeRec (.ref c') qual) (hcl : closureFor sc (envG nm sc0 L a (.ref c) cl) = pure clos)
    (h : ∀ f c' doc pm ctv h' tk' ps' X, Fr h₀ L h' m → News h₀ L h' ((f, fnMade name qual params body sc clos doc pm c' ctv) :: (g (tabObj ps') ++ X)) → TriplesOk ps'.toList → codeAmong pos ps'.toList = some (.ref c') → c' ≠ P →
      (∀ p ∈ X, p.1 < f ∧ ∀ q ∈ news, q.1 < p.1) → (∀ h'' m'', Fr h₀ L h'' m'' → News h₀ L h'' X → h''.CodeRec (.ref c') qual) → (∀ q ∈ news, q.1 < f) → Q (.ref f) ⟨h', gs, dr, tk', os⟩) :
    wpAny (model prog w) A (makeFunction name qual params (.stmts body) sc (envG nm sc0 L a (.ref c) cl) [] [] [] pos line) Q E ⟨hp, gs, dr, tk, os⟩ := by
  rw [envG_eq] at hcl ⊢
  obtain ⟨lo, mean, T⟩ := G.T
  have hgp : g (tabObj ps) = news := by
    obtain ⟨pre, post, e1, e2, _, _⟩ := U.split
    rw [e2, e1]
  have hmem : (P, tabObj ps) ∈ news := by
    obtain ⟨pre, post, e1, _, _, _⟩ := U.split
    rw [e1]; simp
  rcases hq with hq | ⟨c', hq, hne, hr⟩
  · refine nest_K (s := ⟨hp, gs, dr, tk, os⟩) F N T C rfl U ht hq hcl fun f c' oc vs t ctv doc h' tk' F' N' d1 d2 l1 l2 => ?_
    refine h f c' doc ((mg "__name__").getD .none) ctv h' tk' (ps ++ #[rawInt pos.line, rawInt pos.col, .ref c']) [(c', oc)] F' (fun p hp => N' p ?_) ?_ ?_ (Nat.ne_of_gt (l1 _ hmem)) (fun p hp => ?_)
      (fun h'' m'' _ N'' => codeRec_news N'' (.head _) d1 d2) fun q hq' => Nat.lt_trans (l1 q hq') l2
    · rcases List.mem_cons.mp hp with rfl | hp
      · exact .head _
      · rcases List.mem_append.mp hp with hp | hp
        · exact List.mem_cons_of_mem _ (List.mem_cons_of_mem _ hp)
        · rw [List.mem_singleton.mp hp]; exact List.mem_cons_of_mem _ (.head _)
    · rw [Array.toList_append]; exact TriplesOk_snoc _ _ _ _ ht
    · rw [Array.toList_append]; exact codeAmong_snoc _ ht hq
    · rw [List.mem_singleton.mp hp]; exact ⟨l2, l1⟩
  · refine nestHit_K (s := ⟨hp, gs, dr, tk, os⟩) F N T C rfl hmem ht hq hcl fun f ctv doc h' tk' F' N' l1 => ?_
    exact h f c' doc ((mg "__name__").getD .none) ctv h' tk' ps [] F' (by rw [hgp, List.append_nil]; exact N') ht hq hne (fun _ hp => nomatch hp) (fun h'' m'' F'' _ => hr.keeps F''.keep) l1
end
section
variable {prog : Program} {A : Around} {E : Value → Shared → Prop} {hp : Heap} {gs : Array GenState} {dr : Drawn} {tk : Nat} {os : OsState} {h₀ : Heap} {L : Addr} {m : Str → Option Value} {news : List (Addr × Obj)} {Q : Value → Shared → Prop} {a b : Nat} {t u : Tok}
theorem f_int0 {env : Env} {k : Nat} {pos : Pos} (h : Q (.int ((0 : Nat) : Int) tk) ⟨hp, gs, dr, tk + 1, os⟩) : wpAny (model prog w) A (eval (.Constant (.int 0) k pos) env) Q E ⟨hp, gs, dr, tk, os⟩ := f_int h
theorem f_divN (hb : b ≠ 0) (hs : b < 2 ^ 29) (h : Q (.int ((a / b : Nat) : Int) tk) ⟨hp, gs, dr, tk + 1, os⟩) : wpAny (model prog w) A (binaryOp .FloorDiv (.int (a : Int) t) (.int (b : Int) u)) Q E ⟨hp, gs, dr, tk, os⟩ := by
  refine floordiv_int (by omega) ?_ (.inl (PyProof.noPylong_small (by omega)))
  rw [Int.fdiv_eq_ediv_of_nonneg _ (by omega)]
  exact h
theorem foldl_rep {v : Value} : ∀ k : Nat, ∀ acc : Array Value, (List.replicate k #[v]).foldl (fun x1 x2 => x1 ++ x2) acc = acc ++ Array.replicate k v
  | 0, acc => by simp
  | k + 1, acc => by
    rw [List.replicate_succ, List.foldl_cons, foldl_rep k]
    apply Array.toList_inj.mp
    simp [List.replicate_succ]
theorem f_rep {l : Addr} {v : Value} {k n : Nat} (F : Fr h₀ L hp m) (N : News h₀ L hp news) (hm : (l, listOf #[v] n) ∈ news) (hk : k ≤ 2 ^ 20)
    (h : ∀ D h', Fr h₀ L h' m → News h₀ L h' ((D, listOf (Array.replicate k v) 0) :: news) → (∀ q ∈ news, q.1 < D) → Q (.ref D) ⟨h', gs, dr, tk, os⟩) :
    wpAny (model prog w) A (binaryOp .Mult (.ref l) (.int (k : Int) u)) Q E ⟨hp, gs, dr, tk, os⟩ := by
  refine mul_list F N (N _ hm).1 (by omega) (by omega) (by simp; omega) fun h' F' N' => h _ h' F' (fun p hp => N' p ?_) fun q hq => Heap.lt_size (N q hq).1
  rcases List.mem_cons.mp hp with rfl | hp
  · have e : List.foldl (fun x1 x2 => x1 ++ x2) #[] (List.replicate (if (#[v] : Array Value).isEmpty = true then 0 else (k : Int).toNat) #[v]) = Array.replicate k v := by
      rw [if_neg (by simp), Int.toNat_natCast, foldl_rep]
      simp
    rw [e]
    exact .head _
  · exact List.mem_cons_of_mem _ hp
theorem f_list {vs : List Value} (F : Fr h₀ L hp m) (N : News h₀ L hp news) (hz : vs.length ≤ 1000)
    (h : ∀ l h', Fr h₀ L h' m → News h₀ L h' ((l, listOf vs.toArray 0) :: news) → (∀ p ∈ news, p.1 < l) → Q (.ref l) ⟨h', gs, dr, tk, os⟩) : wpAny (model prog w) A (newList vs) Q E ⟨hp, gs, dr, tk, os⟩ :=
  newList_K F N h (by rw [sizeLine_eq]; omega)
theorem f_truthyN {Q : Bool → Shared → Prop} (h : Q (decide (a ≠ 0)) ⟨hp, gs, dr, tk, os⟩) : wpAny (model prog w) A (truthy (.int (a : Int) t)) Q E ⟨hp, gs, dr, tk, os⟩ := by
  refine truthy_int ?_
  have : ((a : Int) != 0) = decide (a ≠ 0) := by
    by_cases q : a = 0
    · subst q; simp
    · simp [q]
  rw [this]
  exact h
theorem f_len {l : Addr} {its : Array Value} {n : Nat} (e : hp.get? l = some (listOf its n)) (hz : its.size ≤ 2 ^ 24) (h : Q (.int ((its.size : Nat) : Int) (tk + 1)) ⟨hp, gs, dr, tk + 1 + 1, os⟩) : wpAny (model prog w) A (call (.builtin "len") [.ref l]) Q E ⟨hp, gs, dr, tk, os⟩ :=
  PySem.Calls.call_len_list (PySem.IsL.isList (n := n) e) (by omega) h
end
section
variable {prog : Program} {A : Around} {E : Value → Shared → Prop} {hp : Heap} {gs : Array GenState} {dr : Drawn} {tk : Nat} {os : OsState} {h₀ : Heap} {L q : Addr} {news : List (Addr × Obj)} {Q : Value → Shared → Prop} {env : Env} {od : Option Addr} {fd : FuncData} {oc : Value} {osl : Array (Option Value)}
theorem cwN_ {M : Model} {vs : List Value} {s : Shared} (N : News h₀ L s.heap news) (hm : (q, (⟨oc, od, .func fd, osl⟩ : Obj)) ∈ news) (h : wpAny M A (call (.ref q) vs) Q E s) : CwF M A q Q E vs s := ⟨⟨_, _, _, _, (N _ hm).1⟩, h⟩
theorem f_cwN {e : Expr} {rest : List Expr} {pos : Pos} (N : News h₀ L hp news) (hm : (q, (⟨oc, od, .func fd, osl⟩ : Obj)) ∈ news)
    (he : starEach (e :: rest) env = (false, eval e env) :: starEach rest env) (hplain : (backTo pos (starEach rest env)).any (·.1) = false)
    (h : wpAny (model prog w) A (spliced (backTo pos (starEach (e :: rest) env))) (CwF (model prog w) A q Q E) E ⟨hp, gs, dr, tk, os⟩) :
    wpAny (model prog w) A (callWith pos (.ref q) [] (backTo pos (starEach (e :: rest) env)) []) Q E ⟨hp, gs, dr, tk, os⟩ :=
  callWith_F (first := []) ⟨_, _, _, _, (N _ hm).1⟩ (wpAny_mono h (fun _ _ q => q) fun _ _ x => x) he hplain
end
theorem fresh_of {h₀ h : Heap} {L D : Addr} {m : Str → Option Value} (F : Fr h₀ L h m) (fr : h.get? D = none) : D ≠ L ∧ h₀.get? D = none := by
  refine ⟨fun q => ?_, ?_⟩
  · obtain ⟨o, _, _, e, _⟩ := F.ns
    rw [← q, fr] at e; cases e
  · cases q : h₀.get? D with
    | none => rfl
    | some o => rw [F.keep _ _ q] at fr; cases fr
end Mine
end
section
local macro_rules | `(tactic| walk_at "zz") => `(tactic| fail)
theorem Mine.freshT11 : True := by
  w_top off
  trivial
namespace Mine
variable {w : World} {mg mb : Str → Option Value}
theorem qual_G {nm : Str} {sc : Scope} {L f : Addr} {cd : Value} {cl : List (Str × Addr)} {x y : Str} (h : (kindS sc y == some .globalExplicit) = false) : qualnameIn (envG nm sc L f cd cl) x y = nm ++ Str.ofString ".<locals>." ++ x := by
  rw [envG_eq]
  unfold qualnameIn
  have e : (envX nm sc L f cd cl).kindOf y = kindS sc y := rfl
  rw [e, if_neg (by rw [h]; decide)]
abbrev q80 : Str := Str.ofString "_int2digits" ++ Str.ofString ".<locals>." ++ Str.ofString "inner"
noncomputable abbrev p80 (w : World) : Pos := (nr80 w).1.pos
theorem ext_hideP {h : Heap} {as : List Addr} : Ext as h (hideAll h as) := fun _ _ hb e => hideAll_get _ e hb
theorem bits_lt (a : Nat) : a < 2 ^ Builtin.Int.intBits (a : Int) := by
  have := intBits_le_iff.mp (Nat.le_refl (Builtin.Int.intBits (a : Int)))
  rwa [Int.natAbs_natCast] at this
theorem bits_le {a k : Nat} (h : a < 2 ^ k) : Builtin.Int.intBits (a : Int) ≤ k := intBits_le_iff.mpr (by rwa [Int.natAbs_natCast])
/-- the count of digits -/
def cnt (n a : Nat) : Nat := (Builtin.Int.intBits (a : Int) + n - 1) / n
theorem cnt_le {n a : Nat} (hn : 1 ≤ n) (ha : a < 2 ^ (n * 10)) : cnt n a ≤ 10 := by
  have := bits_le ha
  unfold cnt
  have h2 : Builtin.Int.intBits (a : Int) + n - 1 < n * 11 := by omega
  have := (Nat.div_lt_iff_lt_mul (show 0 < n by omega)).mpr (by rw [Nat.mul_comm]; exact h2)
  omega
theorem cnt_fit {n a : Nat} (hn : 1 ≤ n) : a < 2 ^ (n * cnt n a) := by
  refine Nat.lt_of_lt_of_le (bits_lt a) (Nat.pow_le_pow_right (by decide) ?_)
  unfold cnt
  have := Nat.div_add_mod (Builtin.Int.intBits (a : Int) + n - 1) n
  have := Nat.mod_lt (Builtin.Int.intBits (a : Int) + n - 1) (show 0 < n by omega)
  omega
theorem cnt_pos {n a : Nat} (hn : 1 ≤ n) (ha : a ≠ 0) : 1 ≤ cnt n a := by
  have : 1 ≤ Builtin.Int.intBits (a : Int) := by
    have := bits_lt a
    apply Nat.pos_of_ne_zero
    intro e
    rw [e] at this
    omega
  unfold cnt
  rw [Nat.le_div_iff_mul_le (by omega)]
  omega
theorem cnt_zero {n : Nat} (hn : 1 ≤ n) : cnt n 0 = 0 := by
  have e : Builtin.Int.intBits ((0 : Nat) : Int) = 0 := by decide
  unfold cnt
  rw [e]
  exact Nat.div_eq_of_lt (by omega)
local macro_rules | `(tactic| walk_at "eval Constant int") => `(tactic| first | refine f_int1 ?_ | refine f_int0 ?_)
local macro_rules | `(tactic| walk_at "binaryOp Add int int") => `(tactic| refine f_addN ?_)
local macro_rules | `(tactic| walk_at "binaryOp Sub int int") => `(tactic| refine f_subN (by omega) ?_)
local macro_rules | `(tactic| walk_at "binaryOp FloorDiv int int") => `(tactic| refine f_divN (by omega) (by omega) ?_)
local macro_rules | `(tactic| walk_at "newList") => `(tactic| fail "here")
local macro_rules | `(tactic| walk_at "truthy int") => `(tactic| refine f_truthyN ?_)
local macro_rules | `(tactic| walk_at "eval Name") => `(tactic| (refine nm_cell (by assumption) (by kernel_rfl) (by kernel_rfl) (by decide) (by rfl) (by k_mem) (by assumption) ?_))
local macro_rules | `(tactic| walk_at "callWith ref") => `(tactic| refine f_cwN (by assumption) (by k_mem) (by kernel_rfl) (by kernel_rfl) ?_)
local macro_rules | `(tactic| walk_at "CwF") => `(tactic| refine cwN_ (by assumption) (by k_mem) ?_)
local macro_rules | `(tactic| walk_at "call builtin:len") => `(tactic| refine f_len (News.get (by assumption) (by k_mem)) (by (simp only [Array.size_replicate]); omega) ?_)
theorem int2digits_spec {prog : Program} {A : Around} {s : Shared} {a n : Nat} {t1 t2 : Tok} {Q E : Value → Shared → Prop} (G : Gl w mg mb s.heap) (hn1 : 1 ≤ n) (hn : n ≤ 400) (ha : a < 2 ^ (n * 10)) (T75 : TabOk s.heap 75 (p80 w) q80) (hroom : A.depth + 20 < recursionLimit)
    (h : ∀ D its h' tk', Ext [75] s.heap h' → s.heap.get? D = none → h'.get? D = some (listOf its 0) → its.size = cnt n a → (∀ i, i < its.size → ∃ t, its[i]? = some (.int (dig n a i : Nat) t)) → TabOk h' 75 (p80 w) q80 → Q (.ref D) { s with heap := h', toks := tk' }) :
    wpAny (model prog w) A (call (.ref 80) [.int (a : Nat) t1, .int (n : Nat) t2]) Q E s := by
  obtain ⟨ps, hP, hT, hq⟩ := T75
  refine wpAny_call (enterC (body := [_, _, _, _]) [("a", .int (a : Nat) t1), ("n", .int (n : Nat) t2)] [("a", .int (a : Nat) t1)] [("n", .int (n : Nat) t2)] (fun L => [("inner", L + 1 + 1 + 1), ("a_digits", L + 1 + 1), ("n", L + 1)]) [(75, tabObj ps)] G.nolimit
    (fun p hp => by rw [List.mem_singleton.mp hp]; exact hP) (G.X 80 _ rfl) rfl (codeRec_of G.X (by kernel_rfl)) (by omega) (.of_eq (by kernel_rfl)) (by kernel_rfl) (by kernel_rfl) (by intro L; kernel_rfl) (by kernel_rfl) (by decide) (fun L h₁ tk cells F N Y lD => ?_) (by kernel_rfl) (by kernel_rfl) (by kernel_rfl))
  obtain ⟨o1, o2, o3, rfl, d1, d2, d3⟩ := Y.three
  clear Y
  rw [lk_hit] at d3
  have l75 := ltN (lD (75, tabObj ps) (.head _))
  clear lD
  have GH := G.tab (by kernel_rfl) hP (ext_hideP (as := [75]))
  simp only [List.map_cons, List.map_nil, List.cons_append, List.nil_append] at F N
  have hcl := cnt_le hn1 ha
  iterate 7 walk1
  refine f_list F N (by simp) fun l h₂ F₂ N₂ l₂ => ?_
  k_lt l₂
  repeat walk1
  refine f_rep F₂ N₂ (by k_mem) (Nat.le_trans hcl (by decide)) fun D h₃ F₃ N₃ l₃ => ?_
  k_lt l₃
  refine' st_cell F₃ N₃ (by kernel_rfl) (by kernel_rfl) (by rfl) ?U d2 ?_
  case U => exact .tail (by k_ne) (.tail (by k_ne) (.tail (by k_ne) (.head (by k_all))))
  intro h₄ o2' F₄ N₄ d2'
  repeat walk1
  refine nestDef_K (by kernel_rfl) (by kernel_rfl) (by kernel_rfl) ?_
  rw [qual_G (by kernel_rfl)]
  have hq' : codeAmong (p80 w) ps.toList = none ∨ ∃ c', codeAmong (p80 w) ps.toList = some (.ref c') ∧ c' ≠ 75 ∧ (hideAll s.heap [75]).CodeRec (.ref c') q80 :=
    hq.imp id fun ⟨c', e1, e2, e3⟩ => ⟨c', e1, e2, codeRec_ext e3 (by simpa using e2) ext_hideP⟩
  refine' make_clos (P := 75) (c := 79) (ps := ps) (clos := [("n", L + 1), ("inner", L + 1 + 1 + 1), ("a_digits", L + 1 + 1)]) F₄ N₄ GH (codeHd_of_K GH.X (by kernel_rfl)) ?U hT hq' (by kernel_rfl) ?_
  case U => k_updF
  intro f c' doc pm ctv h₅ tk₅ ps' X F₅ N₅ hT₅ hq₅ hne hX hrec l₅
  k_lt l₅
  simp only [List.cons_append, List.nil_append] at N₅
  have hXL : ∀ p ∈ X, p.1 ≠ L + 1 + 1 + 1 := fun p hp => Nat.ne_of_gt ((hX p hp).2 (L + 1 + 1 + 1, o1) (by k_mem))
  have hXD : ∀ p ∈ X, p.1 ≠ D := fun p hp => Nat.ne_of_gt ((hX p hp).2 (D, _) (.head _))
  clear hX
  have hD75 : D ∉ [75] := fun q => absurd (List.mem_singleton.mp q) (Nat.ne_of_gt l₃.2.2.2.2)
  have hfresh : s.heap.get? D = none := by
    cases q : s.heap.get? D with
    | none => rfl
    | some o => exact absurd (hideAll_get [75] q hD75) (by rw [(N₃ (D, _) (.head _)).2.2]; exact fun e => nomatch e)
  have hKD : (KF w).lookup D = none := by
    cases q : (KF w).lookup D with
    | none => rfl
    | some o => exact absurd (G.X _ _ q) (by rw [hfresh]; exact fun e => nomatch e)
  refine' st_cell F₅ N₅ (by kernel_rfl) (by kernel_rfl) (by rfl) ?U d1 ?_
  case U => exact .tail (by k_ne) (.tail (by k_ne) (.tail (by k_ne) (.head (List.forall_mem_cons.mpr ⟨by k_ne, List.forall_mem_cons.mpr ⟨by k_ne, List.forall_mem_cons.mpr ⟨by k_ne, hXL⟩⟩⟩))))
  intro h₆ o1' F₆ N₆ d1'
  have hcl' : (Builtin.Int.intBits (a : Int) + n - 1) / n ≤ 10 := hcl
  have fin : ∀ {h'} {its : Array Value} {l : List (Str × Value)} (tk' : Nat) (v : Value), v = .ref D → Fr (hideAll s.heap [75]) L h' (lk l) → News (hideAll s.heap [75]) L h' ((D, listOf its 0) :: (75, tabObj ps') :: X) → its.size = cnt n a → (∀ i, i < its.size → ∃ t, its[i]? = some (.int (dig n a i : Nat) t)) →
      Q v { s with heap := h', toks := tk' } := by
    intro h' its l tk' v e F' N' hs hd
    subst e
    exact h D its h' tk' (fun b o hb e => F'.keep _ _ (hideAll_get _ e hb)) hfresh (N' (D, listOf its 0) (by k_mem)).1 hs hd ⟨ps', (N' (75, tabObj ps') (by k_mem)).1, hT₅, .inr ⟨c', hq₅, hne, hrec _ _ F' fun p hp => N' p (List.mem_cons_of_mem _ (List.mem_cons_of_mem _ hp))⟩⟩
  by_cases h0 : a = 0
  · repeat walk1
    refine fin _ _ rfl F₆ (its := Array.replicate ((Builtin.Int.intBits (a : Int) + n - 1) / n) (.int ((0 : Nat) : Int) tk)) (fun p hp => N₆ p ?_) (by simp [cnt]) fun i hi => ?_
    · rcases List.mem_cons.mp hp with rfl | hp
      · exact .tail _ (.head _)
      · rcases List.mem_cons.mp hp with rfl | hp
        · exact .tail _ (.tail _ (.tail _ (.tail _ (.tail _ (.tail _ (.head _))))))
        · exact .tail _ (.tail _ (.tail _ (.tail _ (.tail _ (.tail _ (.tail _ hp))))))
    · subst h0
      have := cnt_zero hn1
      unfold cnt at this
      rw [this] at hi
      simp at hi
  · repeat walk1
    have hpos := cnt_pos hn1 h0
    have hfit := cnt_fit (a := a) hn1
    have hclos : IsClos h₆ f (nr80 w).1 [("n", L + 1), ("inner", L + 1 + 1 + 1), ("a_digits", L + 1 + 1)] := by
      refine ⟨q80, doc, pm, c', ctv, _, (N₆ _ (.head _)).1, ?_, hrec _ _ F₆ fun p hp => N₆ p (.tail _ (.tail _ (.tail _ (.tail _ (.tail _ (.tail _ (.tail _ hp)))))))⟩
      kernel_rfl
    rw [Array.size_replicate]
    refine inner_spec (f := f) (D := D) (cA := L + 1 + 1) (cI := L + 1 + 1 + 1) (cN := L + 1) (n := n) (ep := 0) (tn := t2) (cl := [("n", L + 1), ("inner", L + 1 + 1 + 1), ("a_digits", L + 1 + 1)]) hn (by rfl) (by rfl) (by rfl) hKD (cnt n a - 1) (L := 0) (R := cnt n a) (by omega) (by omega) ?_ hcl (by rw [Nat.sub_zero]; exact hfit) (by show A.depth + 1 + (cnt n a - 1) < _; omega) (GH.keeps F₆.keep)
      hclos
      ⟨_, (N₆ (L + 1 + 1, o2') (by k_mem)).1, d2'⟩ ⟨_, (N₆ (L + 1 + 1 + 1, o1') (by k_mem)).1, d1'⟩ ⟨_, (N₆ (L + 1, o3) (by k_mem)).1, d3⟩ (N₆ (D, listOf (Array.replicate ((Builtin.Int.intBits (a : Int) + n - 1) / n) (.int ((0 : Nat) : Int) tk)) 0) (by k_mem)).1 fun h₇ tk₇ its' k₇ hD₇ dg => ?_
    · show cnt n a ≤ (Array.replicate (cnt n a) _).size
      rw [Array.size_replicate]
      exact Nat.le_refl _
    · have F₇ := fr_ext F₆ (fun a ha => by rw [List.mem_singleton.mp ha]; exact (N₆ (D, _) (by k_mem)).2) k₇
      have N₇ : News (hideAll s.heap [75]) L h₇ ((D, listOf its' 0) :: (L + 1 + 1, o2') :: (75, tabObj ps') :: X) := news_ext N₆ k₇ fun p hp => by
        rcases List.mem_cons.mp hp with rfl | hp
        · exact .inr ⟨hD₇, _, .tail _ (.head _)⟩
        · rcases List.mem_cons.mp hp with rfl | hp
          · exact .inl ⟨by k_mem, by simpa using Nat.ne_of_lt l₃.2.2.1⟩
          · rcases List.mem_cons.mp hp with rfl | hp
            · exact .inl ⟨by k_mem, by simpa using Nat.ne_of_lt l₃.2.2.2.2⟩
            · exact .inl ⟨.tail _ (.tail _ (.tail _ (.tail _ (.tail _ (.tail _ (.tail _ hp)))))), by simpa using hXD p hp⟩
      repeat walk1
      refine fin (its := its') _ _ rfl F₇ (fun p hp => N₇ p ?_) ?_ fun i hi => ?_
      · rcases List.mem_cons.mp hp with rfl | hp
        · exact .head _
        · exact .tail _ (.tail _ hp)
      · rw [dg.1, Array.size_replicate]; rfl
      · rw [dg.1, Array.size_replicate] at hi
        obtain ⟨t, e⟩ := dg.2.2 i (Nat.zero_le _) hi
        exact ⟨t, e⟩
end Mine
end
section
theorem Mine.freshT12 : True := by
  w_top off
  trivial
namespace Mine
variable {w : World} {mg mb : Str → Option Value}
/-- the number of the digits from L on -/
def val (n : Nat) (d : Nat → Nat) : Nat → Nat → Nat
  | _, 0 => 0
  | L, k + 1 => d L + 2 ^ n * val n d (L + 1) k
theorem val_split {n : Nat} {d : Nat → Nat} : ∀ {j L k : Nat}, val n d L (j + k) = val n d (L + j) k * 2 ^ (j * n) + val n d L j
  | 0, L, k => by simp [val]
  | j + 1, L, k => by
    rw [show j + 1 + k = (j + k) + 1 by omega]
    show d L + 2 ^ n * val n d (L + 1) (j + k) = val n d (L + (j + 1)) k * 2 ^ ((j + 1) * n) + (d L + 2 ^ n * val n d (L + 1) j)
    rw [val_split (j := j), show L + 1 + j = L + (j + 1) by omega, Nat.add_mul, Nat.one_mul, Nat.pow_add]
    generalize 2 ^ n = x
    generalize 2 ^ (j * n) = y
    grind
theorem val_lt {n : Nat} {d : Nat → Nat} (hd : ∀ i, d i < 2 ^ n) : ∀ {k L : Nat}, val n d L k < 2 ^ (k * n)
  | 0, L => by simp [val]
  | k + 1, L => by
    have a := val_lt hd (k := k) (L := L + 1)
    have b := hd L
    show d L + 2 ^ n * val n d (L + 1) k < _
    rw [Nat.add_mul, Nat.one_mul, Nat.pow_add]
    have c : (val n d (L + 1) k + 1) * 2 ^ n ≤ 2 ^ (k * n) * 2 ^ n := Nat.mul_le_mul_right _ a
    rw [Nat.add_mul, Nat.one_mul] at c
    rw [Nat.mul_comm (2 ^ n)]
    omega
noncomputable def fd87 (w : World) : { r : FuncData // fdAt w 87 = r } := ⟨⟨_, _, _, _, _, _, _, _, _, _, _, _, _, _, _⟩, rfl⟩
noncomputable def nr87 (w : World) : { r : NR // nestOf (fd87 w).1 = r } := ⟨⟨_, _, _, _, _⟩, rfl⟩
theorem val_sh {n : Nat} {d : Nat → Nat} (hd : ∀ i, d i < 2 ^ n) (hn : n ≤ 400) {k L m : Nat} (hk : k ≤ 20) (hm : m ≤ 20) : Builtin.Int.intBits ((val n d L k : Nat) : Int) + m * n ≤ 2 ^ 27 := by
  have := bits_le (val_lt hd (k := k) (L := L))
  have h1 := Nat.mul_le_mul hk hn
  have h2 := Nat.mul_le_mul hm hn
  omega
theorem at_listN {prog : Program} {A : Around} {E : Value → Shared → Prop} {hp : Heap} {gs : Array GenState} {dr : Drawn} {tk : Nat} {os : OsState} {h₀ : Heap} {L l : Addr} {m : Str → Option Value} {its : Array Value} {ep k : Nat} {v : Value} {value slice : Expr} {u : Tok} {Q : Value → Shared → Prop}
    (hD : h₀.get? l = some (listOf its ep)) (F : Fr h₀ L hp m) (hk : k < 2 ^ 62) (hx : its[k]? = some v) (h : Q v ⟨hp, gs, dr, tk, os⟩)
    (hs : subscripted slice false (.ref l) (.int (k : Int) u) = operate [.ref l, .int (k : Int) u] (getItem (.ref l) (.int (k : Int) u)) := by with_unfolding_all rfl) :
    wpAny (model prog w) A (subscriptTail value slice (.ref l) (.int (k : Int) u)) Q E ⟨hp, gs, dr, tk, os⟩ := by
  obtain ⟨vs⟩ := its
  exact at_list (PySem.IsL.isList (n := ep) (F.keep _ _ hD)) hk (by simpa using hx) h hs
local macro_rules | `(tactic| walk_at "eval Constant int") => `(tactic| refine f_int1 ?_)
local macro_rules | `(tactic| walk_at "binaryOp Add int int") => `(tactic| refine f_addN ?_)
local macro_rules | `(tactic| walk_at "binaryOp Sub int int") => `(tactic| refine f_subN (by omega) ?_)
local macro_rules | `(tactic| walk_at "binaryOp Mult int int") => `(tactic| refine f_mulN (by omega) ?_)
local macro_rules | `(tactic| walk_at "binaryOp RShift int int") => `(tactic| refine f_shrN ?_)
local macro_rules | `(tactic| walk_at "compareOp Eq int int") => `(tactic| refine f_eqN ?_)
local macro_rules | `(tactic| walk_at "binaryOp LShift int int") => `(tactic| refine f_shlN (by assumption) ?_)
local macro_rules | `(tactic| walk_at "callWith ref") => `(tactic| refine f_cwF (by assumption) (by assumption) (by kernel_rfl) (by kernel_rfl) ?_)
local macro_rules | `(tactic| walk_at "CwF") => `(tactic| refine cwF_ (by assumption) (by assumption) ?_)
local macro_rules | `(tactic| walk_at "subscriptTail ref int") => `(tactic| refine at_listN (by assumption) (by assumption) (by omega) (by assumption) ?_)
theorem inner2_spec {prog : Program} {f D cA cI cN n : Nat} {tn : Tok} {cl : List (Str × Addr)} {d : Nat → Nat} (hd : ∀ i, d i < 2 ^ n) (hn : n ≤ 400) (hcA : cl.lookup (Str.ofString "digits") = some cA) (hcI : cl.lookup (Str.ofString "inner") = some cI) (hcN : cl.lookup (Str.ofString "n") = some cN) :
    ∀ (k : Nat) {A : Around} {s : Shared} {L R ep : Nat} {its : Array Value} {t2 t3 : Tok} {Q E : Value → Shared → Prop}, R - L = k + 1 → L < R → R ≤ 20 → (∀ i, L ≤ i → i < R → ∃ t, its[i]? = some (.int (d i : Nat) t)) → A.depth + k < recursionLimit →
      Gl w mg mb s.heap → IsClos s.heap f (nr87 w).1 cl → s.heap.IsCell cA (some (.ref D)) → s.heap.IsCell cI (some (.ref f)) → s.heap.IsCell cN (some (.int (n : Nat) tn)) → s.heap.get? D = some (listOf its ep) →
      (∀ h' tk' t, Ext [] s.heap h' → Q (.int (val n d L (R - L) : Nat) t) { s with heap := h', toks := tk' }) →
      wpAny (model prog w) A (call (.ref f) [.int (L : Nat) t2, .int (R : Nat) t3]) Q E s := by
  intro k
  induction k using Nat.strongRecOn with
  | ind k ih =>
    intro A s L R ep its t2 t3 Q E hk hLR hR10 hits hroom G hf hA hI hN hD h
    obtain ⟨qual, doc, pm, c', ctv, fo, ho, hdat, hcd⟩ := id hf
    refine wpAny_call (enterP (body := [_, _, _, _]) [("R", .int (R : Nat) t3), ("L", .int (L : Nat) t2)] [] G.nolimit (fun p hp => nomatch hp) ho hdat hcd (by omega) (.of_eq (by kernel_rfl)) (by kernel_rfl) (fun L' h₁ tk F N lD => ?_) (by kernel_rfl) (by kernel_rfl) (by kernel_rfl) (by kernel_rfl))
    simp only [List.map_nil] at F N
    have e0 : hideAll s.heap [] = s.heap := rfl
    rw [e0] at F N
    by_cases h1 : L + 1 = R
    · subst h1
      obtain ⟨t, et⟩ := hits L (Nat.le_refl _) (by omega)
      repeat walk1
      refine at_listN hD F (by omega) et ?_
      repeat walk1
      have := h h₁ (tk + 1 + 1) t (fun b o _ e => F.keep b o e)
      rw [Nat.add_sub_cancel_left] at this
      have e1 : val n d L 1 = d L := by simp [val]
      rw [e1] at this
      exact this
    · have hL2 : L < (L + R) / 2 ^ 1 := by omega
      have hR2 : (L + R) / 2 ^ 1 < R := by omega
      have hfn := hf.fnAt
      have hsh := val_sh hd hn (k := R - (L + R) / 2 ^ 1) (L := (L + R) / 2 ^ 1) (m := (L + R) / 2 ^ 1 - L) (by omega) (by omega)
      repeat walk1
      rename_i F₁ N₁
      obtain ⟨d₁, hd₁⟩ : ∃ d, d = (L + R) / 2 ^ 1 - L - 1 := ⟨_, rfl⟩
      obtain ⟨d₂, hd₂⟩ : ∃ d, d = R - (L + R) / 2 ^ 1 - 1 := ⟨_, rfl⟩
      refine ih d₂ (by omega) (ep := ep) (its := its) (by omega) hR2 (by omega) (fun i a b => hits i (by omega) (by omega)) (by show A.depth + 1 + d₂ < _; omega)
        (G.keeps F₁.keep) (hf.keeps F₁.keep) (hA.keeps F₁.keep) (hI.keeps F₁.keep) (hN.keeps F₁.keep) (F₁.keep _ _ hD) fun h₂ tk₂ t₂ k₂ => ?_
      have F₂ := fr_ext F₁ (as := []) (fun a ha => nomatch ha) k₂
      have N₂ : News s.heap L' h₂ [] := fun p hp => nomatch hp
      clear F₁ N₁
      repeat walk1
      refine ih d₁ (by omega) (ep := ep) (its := its) (by omega) hL2 (by omega) (fun i a b => hits i (by omega) (by omega)) (by show A.depth + 1 + d₁ < _; omega)
        (G.keeps F₂.keep) (hf.keeps F₂.keep) (hA.keeps F₂.keep) (hI.keeps F₂.keep) (hN.keeps F₂.keep) (F₂.keep _ _ hD) fun h₃ tk₃ t₃ k₃ => ?_
      have F₃ := fr_ext F₂ (as := []) (fun a ha => nomatch ha) k₃
      have N₃ : News s.heap L' h₃ [] := fun p hp => nomatch hp
      clear F₂ N₂
      repeat walk1
      have e := val_split (n := n) (d := d) (j := (L + R) / 2 ^ 1 - L) (L := L) (k := R - (L + R) / 2 ^ 1)
      rw [show (L + R) / 2 ^ 1 - L + (R - (L + R) / 2 ^ 1) = R - L by omega, show L + ((L + R) / 2 ^ 1 - L) = (L + R) / 2 ^ 1 by omega] at e
      rw [← e]
      exact h _ _ _ fun b o _ e => F₃.keep b o e
end Mine
end
section
theorem Mine.freshT13 : True := by
  w_top off
  trivial
namespace Mine
variable {w : World} {mg mb : Str → Option Value}
abbrev q87 : Str := Str.ofString "_digits2int" ++ Str.ofString ".<locals>." ++ Str.ofString "inner"
noncomputable abbrev p87 (w : World) : Pos := (nr87 w).1.pos
local macro_rules | `(tactic| walk_at "eval Constant int") => `(tactic| first | refine f_int1 ?_ | refine f_int0 ?_)
local macro_rules | `(tactic| walk_at "eval Name") => `(tactic| (refine nm_cell (by assumption) (by kernel_rfl) (by kernel_rfl) (by decide) (by rfl) (by k_mem) (by assumption) ?_))
local macro_rules | `(tactic| walk_at "callWith ref") => `(tactic| refine f_cwN (by assumption) (by k_mem) (by kernel_rfl) (by kernel_rfl) ?_)
local macro_rules | `(tactic| walk_at "CwF") => `(tactic| refine cwN_ (by assumption) (by k_mem) ?_)
theorem f_truthyL {prog : Program} {A : Around} {E : Value → Shared → Prop} {hp : Heap} {gs : Array GenState} {dr : Drawn} {tk : Nat} {os : OsState} {l : Addr} {its : Array Value} {ep : Nat} {Q : Bool → Shared → Prop} (e : hp.get? l = some (listOf its ep)) (hz : its.size ≤ 2 ^ 24) (h : Q (decide (its.size ≠ 0)) ⟨hp, gs, dr, tk + 1 + 1, os⟩) :
    wpAny (model prog w) A (truthy (.ref l)) Q E ⟨hp, gs, dr, tk, os⟩ := by
  refine wpAny_truthy_list (PySem.IsL.isList (n := ep) e) (by omega) ?_
  have : (!its.isEmpty) = decide (its.size ≠ 0) := by
    unfold Array.isEmpty
    by_cases q : its.size = 0 <;> simp [q]
  rw [this]
  exact h
local macro_rules | `(tactic| walk_at "truthy ref") => `(tactic| refine f_truthyL (by assumption) (by omega) ?_)
local macro_rules | `(tactic| walk_at "call builtin:len") => `(tactic| refine f_len (by assumption) (by omega) ?_)
theorem digits2int_spec {prog : Program} {A : Around} {s : Shared} {D n ep : Nat} {its : Array Value} {d : Nat → Nat} {t2 : Tok} {Q E : Value → Shared → Prop} (G : Gl w mg mb s.heap) (hn : n ≤ 400) (hd : ∀ i, d i < 2 ^ n) (hD : s.heap.get? D = some (listOf its ep)) (hz : its.size ≤ 20)
    (hits : ∀ i, i < its.size → ∃ t, its[i]? = some (.int (d i : Nat) t)) (T82 : TabOk s.heap 82 (p87 w) q87) (hroom : A.depth + 30 < recursionLimit)
    (h : ∀ h' tk' t, Ext [82] s.heap h' → TabOk h' 82 (p87 w) q87 → Q (.int (val n d 0 its.size : Nat) t) { s with heap := h', toks := tk' }) :
    wpAny (model prog w) A (call (.ref 87) [.ref D, .int (n : Nat) t2]) Q E s := by
  obtain ⟨ps, hP, hT, hq⟩ := T82
  refine wpAny_call (enterC (body := [_, _]) [("digits", .ref D), ("n", .int (n : Nat) t2)] [] [("n", .int (n : Nat) t2), ("digits", .ref D)] (fun L => [("inner", L + 1 + 1 + 1), ("n", L + 1 + 1), ("digits", L + 1)]) [(82, tabObj ps)] G.nolimit
    (fun p hp => by rw [List.mem_singleton.mp hp]; exact hP) (G.X 87 _ rfl) rfl (codeRec_of G.X (by kernel_rfl)) (by omega) (.of_eq (by kernel_rfl)) (by kernel_rfl) (by kernel_rfl) (by intro L; kernel_rfl) (by kernel_rfl) (by decide) (fun L h₁ tk cells F N Y lD => ?_) (by kernel_rfl) (by kernel_rfl) (by kernel_rfl))
  obtain ⟨o1, o2, o3, rfl, d1, d2, d3⟩ := Y.three
  clear Y
  rw [lk_of (r := some (.int (n : Nat) t2)) (by rfl)] at d2
  rw [lk_of (r := some (.ref D)) (by rfl)] at d3
  have l82 := ltN (lD (82, tabObj ps) (.head _))
  clear lD
  have GH := G.tab (by kernel_rfl) hP (ext_hideP (as := [82]))
  have hD82 : D ∉ [82] := by
    intro q
    rw [List.mem_singleton.mp q, hP] at hD
    cases hD
  have hDH : (hideAll s.heap [82]).get? D = some (listOf its ep) := hideAll_get _ hD hD82
  simp only [List.map_cons, List.map_nil, List.cons_append, List.nil_append] at F N
  repeat walk1
  refine nestDef_K (by kernel_rfl) (by kernel_rfl) (by kernel_rfl) ?_
  rw [qual_G (by kernel_rfl)]
  have hq' : codeAmong (p87 w) ps.toList = none ∨ ∃ c', codeAmong (p87 w) ps.toList = some (.ref c') ∧ c' ≠ 82 ∧ (hideAll s.heap [82]).CodeRec (.ref c') q87 :=
    hq.imp id fun ⟨c', e1, e2, e3⟩ => ⟨c', e1, e2, codeRec_ext e3 (by simpa using e2) ext_hideP⟩
  refine' make_clos (P := 82) (c := 86) (ps := ps) (clos := [("n", L + 1 + 1), ("inner", L + 1 + 1 + 1), ("digits", L + 1)]) F N GH (codeHd_of_K GH.X (by kernel_rfl)) ?U hT hq' (by kernel_rfl) ?_
  case U => k_updF
  intro f c' doc pm ctv h₅ tk₅ ps' X F₅ N₅ hT₅ hq₅ hne hX hrec l₅
  k_lt l₅
  simp only [List.cons_append, List.nil_append] at N₅
  have hXL : ∀ p ∈ X, p.1 ≠ L + 1 + 1 + 1 := fun p hp => Nat.ne_of_gt ((hX p hp).2 (L + 1 + 1 + 1, o1) (by k_mem))
  clear hX
  refine' st_cell F₅ N₅ (by kernel_rfl) (by kernel_rfl) (by rfl) ?U d1 ?_
  case U => exact .tail (by k_ne) (.head (List.forall_mem_cons.mpr ⟨by k_ne, List.forall_mem_cons.mpr ⟨by k_ne, List.forall_mem_cons.mpr ⟨by k_ne, hXL⟩⟩⟩))
  intro h₆ o1' F₆ N₆ d1'
  have fin : ∀ {h'} {l : List (Str × Value)} (tk' : Nat) (v : Nat) (t : Tok), v = val n d 0 its.size → Fr (hideAll s.heap [82]) L h' (lk l) → News (hideAll s.heap [82]) L h' ((82, tabObj ps') :: X) →
      Q (.int (v : Nat) t) { s with heap := h', toks := tk' } := by
    intro h' l tk' v t e F' N'
    subst e
    exact h h' tk' t (fun b o hb e => F'.keep _ _ (hideAll_get _ e hb)) ⟨ps', (N' (82, tabObj ps') (by k_mem)).1, hT₅, .inr ⟨c', hq₅, hne, hrec _ _ F' fun p hp => N' p (List.mem_cons_of_mem _ hp)⟩⟩
  have hD₆ := F₆.keep _ _ hDH
  by_cases h0 : its.size = 0
  · repeat walk1
    exact fin _ 0 _ (by rw [h0]; rfl) F₆ fun p hp => N₆ p (by
      rcases List.mem_cons.mp hp with rfl | hp
      · exact .tail _ (.tail _ (.tail _ (.tail _ (.head _))))
      · exact .tail _ (.tail _ (.tail _ (.tail _ (.tail _ hp)))))
  · repeat walk1
    have hclos : IsClos h₆ f (nr87 w).1 [("n", L + 1 + 1), ("inner", L + 1 + 1 + 1), ("digits", L + 1)] := by
      refine ⟨q87, doc, pm, c', ctv, _, (N₆ _ (.head _)).1, ?_, hrec _ _ F₆ fun p hp => N₆ p (.tail _ (.tail _ (.tail _ (.tail _ (.tail _ hp)))))⟩
      kernel_rfl
    refine inner2_spec (f := f) (D := D) (cA := L + 1) (cI := L + 1 + 1 + 1) (cN := L + 1 + 1) (n := n) (ep := ep) (its := its) (d := d) (tn := t2) (cl := [("n", L + 1 + 1), ("inner", L + 1 + 1 + 1), ("digits", L + 1)]) hd hn (by rfl) (by rfl) (by rfl) (its.size - 1) (L := 0) (R := its.size) (by omega) (by omega) hz (fun i _ hi => hits i hi) (by show A.depth + 1 + (its.size - 1) < _; omega) (GH.keeps F₆.keep)
      hclos ⟨_, (N₆ (L + 1, o3) (by k_mem)).1, d3⟩ ⟨_, (N₆ (L + 1 + 1 + 1, o1') (by k_mem)).1, d1'⟩ ⟨_, (N₆ (L + 1 + 1, o2) (by k_mem)).1, d2⟩ hD₆ fun h₇ tk₇ t₇ k₇ => ?_
    have F₇ := fr_ext F₆ (as := []) (fun a ha => nomatch ha) k₇
    have N₇ : News (hideAll s.heap [82]) L h₇ ((82, tabObj ps') :: X) := news_ext N₆ k₇ fun p hp => .inl ⟨by
      rcases List.mem_cons.mp hp with rfl | hp
      · exact .tail _ (.tail _ (.tail _ (.tail _ (.head _))))
      · exact .tail _ (.tail _ (.tail _ (.tail _ (.tail _ hp)))), List.not_mem_nil⟩
    repeat walk1
    exact fin _ _ _ rfl F₇ N₇
end Mine
end
section
theorem Mine.freshT14 : True := by
  w_top off
  trivial
namespace Mine
inductive Ex4 {α0 α1 α2 α3 : Type} (P : α0 → α1 → α2 → α3 → Prop) : Prop
  | mk (x0 : α0) (x1 : α1) (x2 : α2) (x3 : α3) (h : P x0 x1 x2 x3) : Ex4 P
inductive Ex5 {α0 α1 α2 α3 α4 : Type} (P : α0 → α1 → α2 → α3 → α4 → Prop) : Prop
  | mk (x0 : α0) (x1 : α1) (x2 : α2) (x3 : α3) (x4 : α4) (h : P x0 x1 x2 x3 x4) : Ex5 P
inductive Ex6 {α0 α1 α2 α3 α4 α5 : Type} (P : α0 → α1 → α2 → α3 → α4 → α5 → Prop) : Prop
  | mk (x0 : α0) (x1 : α1) (x2 : α2) (x3 : α3) (x4 : α4) (x5 : α5) (h : P x0 x1 x2 x3 x4 x5) : Ex6 P
inductive Ex7 {α0 α1 α2 α3 α4 α5 α6 : Type} (P : α0 → α1 → α2 → α3 → α4 → α5 → α6 → Prop) : Prop
  | mk (x0 : α0) (x1 : α1) (x2 : α2) (x3 : α3) (x4 : α4) (x5 : α5) (x6 : α6) (h : P x0 x1 x2 x3 x4 x5 x6) : Ex7 P
inductive Ex8 {α0 α1 α2 α3 α4 α5 α6 α7 : Type} (P : α0 → α1 → α2 → α3 → α4 → α5 → α6 → α7 → Prop) : Prop
  | mk (x0 : α0) (x1 : α1) (x2 : α2) (x3 : α3) (x4 : α4) (x5 : α5) (x6 : α6) (x7 : α7) (h : P x0 x1 x2 x3 x4 x5 x6 x7) : Ex8 P
inductive Ex9 {α0 α1 α2 α3 α4 α5 α6 α7 α8 : Type} (P : α0 → α1 → α2 → α3 → α4 → α5 → α6 → α7 → α8 → Prop) : Prop
  | mk (x0 : α0) (x1 : α1) (x2 : α2) (x3 : α3) (x4 : α4) (x5 : α5) (x6 : α6) (x7 : α7) (x8 : α8) (h : P x0 x1 x2 x3 x4 x5 x6 x7 x8) : Ex9 P
inductive Ex10 {α0 α1 α2 α3 α4 α5 α6 α7 α8 α9 : Type} (P : α0 → α1 → α2 → α3 → α4 → α5 → α6 → α7 → α8 → α9 → Prop) : Prop
  | mk (x0 : α0) (x1 : α1) (x2 : α2) (x3 : α3) (x4 : α4) (x5 : α5) (x6 : α6) (x7 : α7) (x8 : α8) (x9 : α9) (h : P x0 x1 x2 x3 x4 x5 x6 x7 x8 x9) : Ex10 P
inductive All3 (p0 p1 p2 : Prop) : Prop
  | mk (h0 : p0) (h1 : p1) (h2 : p2) : All3 p0 p1 p2
inductive All4 (p0 p1 p2 p3 : Prop) : Prop
  | mk (h0 : p0) (h1 : p1) (h2 : p2) (h3 : p3) : All4 p0 p1 p2 p3
inductive All5 (p0 p1 p2 p3 p4 : Prop) : Prop
  | mk (h0 : p0) (h1 : p1) (h2 : p2) (h3 : p3) (h4 : p4) : All5 p0 p1 p2 p3 p4
inductive All6 (p0 p1 p2 p3 p4 p5 : Prop) : Prop
  | mk (h0 : p0) (h1 : p1) (h2 : p2) (h3 : p3) (h4 : p4) (h5 : p5) : All6 p0 p1 p2 p3 p4 p5
inductive All7 (p0 p1 p2 p3 p4 p5 p6 : Prop) : Prop
  | mk (h0 : p0) (h1 : p1) (h2 : p2) (h3 : p3) (h4 : p4) (h5 : p5) (h6 : p6) : All7 p0 p1 p2 p3 p4 p5 p6
inductive All9 (p0 p1 p2 p3 p4 p5 p6 p7 p8 : Prop) : Prop
  | mk (h0 : p0) (h1 : p1) (h2 : p2) (h3 : p3) (h4 : p4) (h5 : p5) (h6 : p6) (h7 : p7) (h8 : p8) : All9 p0 p1 p2 p3 p4 p5 p6 p7 p8
inductive All10 (p0 p1 p2 p3 p4 p5 p6 p7 p8 p9 : Prop) : Prop
  | mk (h0 : p0) (h1 : p1) (h2 : p2) (h3 : p3) (h4 : p4) (h5 : p5) (h6 : p6) (h7 : p7) (h8 : p8) (h9 : p9) : All10 p0 p1 p2 p3 p4 p5 p6 p7 p8 p9
inductive All11 (p0 p1 p2 p3 p4 p5 p6 p7 p8 p9 p10 : Prop) : Prop
  | mk (h0 : p0) (h1 : p1) (h2 : p2) (h3 : p3) (h4 : p4) (h5 : p5) (h6 : p6) (h7 : p7) (h8 : p8) (h9 : p9) (h10 : p10) : All11 p0 p1 p2 p3 p4 p5 p6 p7 p8 p9 p10
inductive All12 (p0 p1 p2 p3 p4 p5 p6 p7 p8 p9 p10 p11 : Prop) : Prop
  | mk (h0 : p0) (h1 : p1) (h2 : p2) (h3 : p3) (h4 : p4) (h5 : p5) (h6 : p6) (h7 : p7) (h8 : p8) (h9 : p9) (h10 : p10) (h11 : p11) : All12 p0 p1 p2 p3 p4 p5 p6 p7 p8 p9 p10 p11
variable {w : World} {mg mb : Str → Option Value}
theorem lv_passes {M : Model} {A : Around} {env : Env} {R : Result → Shared → Prop} : PassesOwn M (A.deeper env) env (Lv M A env R) :=
  PassesOwn.leaving (Q₁ := fun e s'' => R (.error e) s'') (E₁ := fun e' s'' => R (.error e') s'')
/-- a for loop at its head -/
def LoopGo (M : Model) (A : Around) (env : Env) (target : Expr) (body : List Stmt) (Q : Flow → Shared → Prop) (E : Value → Shared → Prop) (it : Value) (s : Shared) : Prop :=
  codeAny M A (.forLoop target it body [] env) (fun r s' => match r with | .ok f => Q f s' | .error e => cameBackBy M A env E e s') s
/-- the end of a turn -/
def Lp (J : Nat → Shared → Prop) (i : Nat) (Q : Flow → Shared → Prop) (f : Flow) (s : Shared) : Prop := match f with | .next => J i s | .cont => J i s | .brk => Q .next s | .ret v => Q (.ret v) s
section
variable {prog : Program} {A : Around} {E : Value → Shared → Prop} {s : Shared} {env : Env} {Q : Flow → Shared → Prop} {target iter : Expr} {body : List Stmt} {pos : Pos} {it : Value}
theorem f_for (hs : ∀ x, foldedSetIterable iter env x = pure x)
    (h : wpAny (model prog w) A (eval iter env) (fun x s₁ => wpAny (model prog w) A (pyIter x) (LoopGo (model prog w) A env target body Q E) E s₁) E s) : wpAny (model prog w) A (exec (.For target iter body [] pos) env) Q E s :=
  wpAny_For h hs
theorem lp_next {J : Nat → Shared → Prop} {i : Nat} (h : J i s) : Lp J i Q .next s := h
theorem lp_cont {J : Nat → Shared → Prop} {i : Nat} (h : J i s) : Lp J i Q .cont s := h
theorem lp_brk {J : Nat → Shared → Prop} {i : Nat} (h : Q .next s) : Lp J i Q .brk s := h
theorem lp_ret {J : Nat → Shared → Prop} {i : Nat} {v : Value} (h : Q (.ret v) s) : Lp J i Q (.ret v) s := h
theorem loop_rule (hE : PassesOwn (model prog w) A env E) (J : Nat → Shared → Prop) (n : Nat) (h0 : J 0 s)
    (turn : ∀ i s', i < n → J i s' → wpAny (model prog w) A (pyNext it) (fun r s₁ => ∃ v, r = some v ∧ wpAny (model prog w) A (letOwnedTupleGo target it v) (fun _ s₂ => wpAny (model prog w) A (assign target env v) (fun _ s₃ => wpAny (model prog w) A (execs body env) (Lp J (i + 1) Q) E s₃) E s₂) E s₁) E s')
    (done : ∀ s', J n s' → wpAny (model prog w) A (pyNext it) (fun r s₁ => r = none ∧ Q .next s₁) E s') : LoopGo (model prog w) A env target body Q E it s := by
  unfold LoopGo
  refine codeAny_forLoop_any (fun k s' => ∃ i, k = n - i ∧ i ≤ n ∧ J i s') ?_ n ⟨0, rfl, Nat.zero_le _, h0⟩
  rintro k s' ⟨i, rfl, hi, hJ⟩
  by_cases hlt : i < n
  · refine wpAny_passesOwn hE (wpAny_mono (turn i s' hlt hJ) (fun r s₁ h₁ => ?_) fun _ _ x => x)
    obtain ⟨v, rfl, h₁⟩ := h₁
    refine wpAny_passesOwn hE (wpAny_mono h₁ (fun _ s₂ h₂ => ?_) fun _ _ x => x)
    refine wpAny_passesOwn hE (wpAny_mono h₂ (fun _ s₃ h₃ => ?_) fun _ _ x => x)
    refine wpAny_passesOwn hE (wpAny_mono h₃ (fun f s₄ h₄ => ?_) fun _ _ x => x)
    cases f with
    | next => exact ⟨n - (i + 1), by omega, i + 1, rfl, hlt, h₄⟩
    | cont => exact ⟨n - (i + 1), by omega, i + 1, rfl, hlt, h₄⟩
    | brk => exact h₄
    | ret v => exact h₄
  · have e : i = n := by omega
    subst e
    refine wpAny_passesOwn hE (wpAny_mono (done s' hJ) (fun r s₁ h₁ => ?_) fun _ _ x => x)
    obtain ⟨rfl, h₁⟩ := h₁
    exact wpAny_execs_nil h₁
/-- the same, with what comes behind it out of sight -/
theorem loop_ruleP (hE : PassesOwn (model prog w) A env E) (J : Nat → Shared → Prop) (n : Nat) (h0 : J 0 s)
    (turn : ∀ (P : Flow → Shared → Prop) (X : Value → Shared → Prop), PassesOwn (model prog w) A env X → ∀ i s', i < n → (∀ f s₁, Lp J (i + 1) Q f s₁ → P f s₁) → J i s' → wpAny (model prog w) A (pyNext it) (fun r s₁ => ∃ v, r = some v ∧ wpAny (model prog w) A (letOwnedTupleGo target it v) (fun _ s₂ => wpAny (model prog w) A (assign target env v) (fun _ s₃ => wpAny (model prog w) A (execs body env) P X s₃) X s₂) X s₁) X s')
    (done : ∀ (P : Shared → Prop) (X : Value → Shared → Prop), (∀ s₁, Q .next s₁ → P s₁) → ∀ s', J n s' → wpAny (model prog w) A (pyNext it) (fun r s₁ => r = none ∧ P s₁) X s') : LoopGo (model prog w) A env target body Q E it s :=
  loop_rule hE J n h0 (fun i s' hi hJ => turn (Lp J (i + 1) Q) E hE i s' hi (fun _ _ q => q) hJ) fun s' hJ => done (Q .next) E (fun _ q => q) s' hJ
end
section
variable {prog : Program} {A : Around} {E : Value → Shared → Prop} {hp : Heap} {gs : Array GenState} {dr : Drawn} {tk : Nat} {os : OsState} {h₀ : Heap} {L I D : Addr} {m : Str → Option Value} {news : List (Addr × Obj)} {its : Array Value} {ep : Nat} {x : Value} {o : Obj}
/-- the entries but one stay as the one changes -/
theorem led_set (F : Fr h₀ L hp m) (N : News h₀ L hp ((I, o) :: news)) (hne : ∀ p ∈ news, p.1 ≠ I) {h' : Heap} {o' : Obj} (hs : Heap.SameBut I hp h') (ho : h'.get? I = some o') : Fr h₀ L h' m ∧ News h₀ L h' ((I, o') :: news) :=
  ⟨F.change hs (N _ (.head _)).2.1 (N _ (.head _)).2.2, N.setHead hne hs ho⟩
theorem next_rev {i : Nat} {Q : Option Value → Shared → Prop} (F : Fr h₀ L hp m) (N : News h₀ L hp ((I, o) :: news)) (hne : ∀ p ∈ news, p.1 ≠ I) (hc : o.cls = .type "list_reverseiterator") (hd : o.data = .fields #[.ref D, rawInt (i : Int)]) (hD : hp.get? D = some (listOf its ep)) (hx : its[i]? = some x)
    (h : ∀ h' o', Fr h₀ L h' m → News h₀ L h' ((I, o') :: news) → o'.cls = .type "list_reverseiterator" → o'.data = .fields #[.ref D, rawInt ((i : Int) - 1)] → Q (some x) ⟨h', gs, dr, tk, os⟩) : wpAny (model prog w) A (pyNext (.ref I)) Q E ⟨hp, gs, dr, tk, os⟩ := by
  obtain ⟨vs⟩ := its
  refine wpAny_pyNext_rev_item (it := I) (l := D) ⟨o, (N _ (.head _)).1, hc, hd⟩ (PySem.IsL.isList (n := ep) hD) hx fun h' hit hs => ?_
  obtain ⟨o', ho', hc', hd'⟩ := hit
  obtain ⟨F', N'⟩ := led_set F N hne hs ho'
  exact h h' o' F' N' hc' hd'
theorem next_rev_end {Q : Option Value → Shared → Prop} (hh : A.handled = none) (F : Fr h₀ L hp m) (N : News h₀ L hp ((I, o) :: news)) (hne : ∀ p ∈ news, p.1 ≠ I) (hc : o.cls = .type "list_reverseiterator") (hd : o.data = .fields #[.ref D, rawInt (-1)])
    (h : ∀ h', Fr h₀ L h' m → News h₀ L h' news → Q none ⟨h', gs, dr, tk, os⟩) : wpAny (model prog w) A (pyNext (.ref I)) Q E ⟨hp, gs, dr, tk, os⟩ := by
  refine wpAny_pyNext_rev_end (l := D) hh ⟨o, (N _ (.head _)).1, hc, hd⟩ fun h' hs => ?_
  have z := N _ (.head _)
  have k : Ext [I] hp h' := fun b o hb e => hs b o (fun q => hb (List.mem_singleton.mpr q)) e
  exact h h' (fr_ext F (fun a ha => by rw [List.mem_singleton.mp ha]; exact z.2) k) (news_ext N k fun p hp => .inl ⟨.tail _ hp, fun q => hne p hp (List.mem_singleton.mp q)⟩)
theorem iter_rev {Q : Value → Shared → Prop} (N : News h₀ L hp ((I, o) :: news)) (hc : o.cls = .type "list_reverseiterator") {k : Int} (hd : o.data = .fields #[.ref D, rawInt k]) (h : Q (.ref I) ⟨hp, gs, dr, tk, os⟩) : wpAny (model prog w) A (pyIter (.ref I)) Q E ⟨hp, gs, dr, tk, os⟩ :=
  wpAny_pyIter_revIter (l := D) (i := k) ⟨o, (N _ (.head _)).1, hc, hd⟩ h
theorem f_reversed {Q : Value → Shared → Prop} (F : Fr h₀ L hp m) (N : News h₀ L hp news) (hD : hp.get? D = some (listOf its ep))
    (h : ∀ I h' o, Fr h₀ L h' m → News h₀ L h' ((I, o) :: news) → (∀ p ∈ news, p.1 < I) → o.cls = .type "list_reverseiterator" → o.data = .fields #[.ref D, rawInt ((its.size : Int) - 1)] → Q (.ref I) ⟨h', gs, dr, tk, os⟩) : wpAny (model prog w) A (call (.type "reversed") [.ref D]) Q E ⟨hp, gs, dr, tk, os⟩ := by
  obtain ⟨vs⟩ := its
  refine call_reversed_list (PySem.IsL.isList (n := ep) hD) ?_
  exact h _ _ _ (F.push _) (News.push F N _) (fun p hp => Heap.lt_size (N p hp).1) rfl rfl
/-- a made tuple's items taken apart -/
theorem f_unpack {elts : List Expr} {k} {pos : Pos} {t : Addr} {items : Array Value} {env : Env} {Q : Unit → Shared → Prop} (F : Fr h₀ L hp m) (N : News h₀ L hp news) (ht : IsTup hp t items)
    (hh : A.handled = none) (hn : (assignEach elts env).length = items.size) (hstar : (assignEach elts env).findIdx? (·.1) = none)
    (h : ∀ h', Fr h₀ L h' m → News h₀ L h' news → wpAny (model prog w) A (assignInOrder ((assignEach elts env).map (·.2)) items.toList) Q E ⟨h', gs, dr, tk, os⟩) :
    wpAny (model prog w) A (assign (.Tuple elts k pos) env (.ref t)) Q E ⟨hp, gs, dr, tk, os⟩ := unpackN_ F N ht hh hn hstar h
theorem f_reverse {news' : List (Addr × Obj)} {Q : Value → Shared → Prop} (F : Fr h₀ L hp m) (N : News h₀ L hp news) (U : Upd D (listOf its ep) (listOf its.toList.reverse.toArray ep) news news')
    (h : ∀ h', Fr h₀ L h' m → News h₀ L h' news' → Q .none ⟨h', gs, dr, tk, os⟩) (hsz : its.size ≤ 2 ^ 20) : wpAny (model prog w) A (call (.builtin "list.reverse") [.ref D]) Q E ⟨hp, gs, dr, tk, os⟩ := by
  obtain ⟨pre, post, rfl, rfl, a, b⟩ := U.split
  have z := N (D, listOf its ep) (List.mem_append.mpr (.inr (.head _)))
  refine call_meets PySem.F.slot_list_reverse ⟨_, z.1, rfl⟩ PySem.F.entry_list_reverse (PySem.F.args_list_reverse_1 _) (AutoSeq1.list_reverse_list_0 D its ep (by rw [sizeLine_eq]; omega)) ⟨z.1, ?_⟩
  refine h _ (F.change (Heap.SameBut.update ..) z.2.1 z.2.2) (news_set N a b (Heap.SameBut.update ..) ?_)
  rw [Heap.get?_update_self _ z.1 (by rw [mapSeq_reverse]; rfl), mapSeq_reverse]
theorem f_append {news' : List (Addr × Obj)} {Q : Value → Shared → Prop} (F : Fr h₀ L hp m) (N : News h₀ L hp news) (U : Upd D (listOf its ep) (listOf (its.push x) (ep + 1)) news news')
    (h : ∀ h', Fr h₀ L h' m → News h₀ L h' news' → Q .none ⟨h', gs, dr, tk, os⟩) (hsz : its.size ≤ 2 ^ 20) : wpAny (model prog w) A (call (.builtin "list.append") [.ref D, x]) Q E ⟨hp, gs, dr, tk, os⟩ :=
  append_K F N U h (by rw [sizeLine_eq]; omega)
end
abbrev tupOf (its : Array Value) : Obj := { cls := .type "tuple", data := .seq its }
section
variable {prog : Program} {A : Around} {E : Value → Shared → Prop} {hp : Heap} {gs : Array GenState} {dr : Drawn} {tk : Nat} {os : OsState} {h₀ : Heap} {L t : Addr} {m : Str → Option Value} {news : List (Addr × Obj)} {env : Env}
theorem f_tup {vs : List Value} {Q : Value → Shared → Prop} (F : Fr h₀ L hp m) (N : News h₀ L hp news) (hz : vs.length ≤ 1000)
    (h : ∀ t h', Fr h₀ L h' m → News h₀ L h' ((t, tupOf vs.toArray) :: news) → (∀ p ∈ news, p.1 < t) → Q (.ref t) ⟨h', gs, dr, tk, os⟩) : wpAny (model prog w) A (newTuple vs) Q E ⟨hp, gs, dr, tk, os⟩ :=
  newTuple_N F N (fun h' F' N' => h _ h' F' N' fun p hp => Heap.lt_size (N p hp).1) (by rw [sizeLine_eq]; omega)
theorem f_unpack2 {x y : Str} {px py pos : Pos} {k : Nat} {v u : Value} {Q : Unit → Shared → Prop} (F : Fr h₀ L hp m) (N : News h₀ L hp news) (ht : IsTup hp t #[v, u]) (hh : A.handled = none)
    (h : ∀ h', Fr h₀ L h' m → News h₀ L h' news → wpAny (model prog w) A (storeName env x v) (fun _ s₁ => wpAny (model prog w) A (storeName env y u) Q E s₁) E ⟨h', gs, dr, tk, os⟩) :
    wpAny (model prog w) A (assign (.Tuple [.Name x px, .Name y py] k pos) env (.ref t)) Q E ⟨hp, gs, dr, tk, os⟩ := by
  refine f_unpack F N ht hh rfl rfl fun h' F' N' => ?_
  refine assignInOrder_cons (assign_Name ?_)
  refine wpAny_mono (h h' F' N') (fun _ s₁ h₁ => ?_) fun _ _ x => x
  refine assignInOrder_cons (assign_Name ?_)
  exact wpAny_mono h₁ (fun _ s₂ h₂ => assignInOrder_nil h₂) fun _ _ x => x
end
theorem room1 {A : Around} {env : Env} {a b : Nat} (h : A.depth + a < recursionLimit) (e : 1 + b ≤ a := by decide) : (A.deeper env).depth + b < recursionLimit := by
  show A.depth + 1 + b < _
  omega
theorem room0 {A : Around} {env : Env} {a : Nat} (h : A.depth + a < recursionLimit) (e : 1 ≤ a := by decide) : (A.deeper env).depth < recursionLimit := by
  show A.depth + 1 < _
  omega
theorem mem_swap {α : Type} {x y p : α} {l : List α} (h : p ∈ x :: y :: l) : p ∈ y :: x :: l := by
  rcases List.mem_cons.mp h with h | h
  · exact h ▸ .tail _ (.head _)
  · rcases List.mem_cons.mp h with h | h
    · exact h ▸ .head _
    · exact .tail _ (.tail _ h)
theorem news_cons {h₀ h : Heap} {L : Addr} {x : Addr × Obj} {l : List (Addr × Obj)} (a : h.get? x.1 = some x.2 ∧ x.1 ≠ L ∧ h₀.get? x.1 = none) (k : News h₀ L h l) : News h₀ L h (x :: l) := fun p hp => by
  rcases List.mem_cons.mp hp with e | hp
  · rw [e]; exact a
  · exact k p hp
theorem ne_one {x : Addr × Obj} {I : Addr} (h : x.1 ≠ I) : ∀ p ∈ [x], p.1 ≠ I := fun p hp => by rw [List.mem_singleton.mp hp]; exact h
theorem ne_cons {x : Addr × Obj} {I : Addr} {l : List (Addr × Obj)} (h : x.1 ≠ I) (k : ∀ p ∈ l, p.1 ≠ I) : ∀ p ∈ x :: l, p.1 ≠ I := fun p hp => by
  rcases List.mem_cons.mp hp with e | hp
  · rw [e]; exact h
  · exact k p hp
/-- a table as a frame knows it -/
structure TabIn (h₀ : Heap) (L P : Addr) (pos : Pos) (qual : Str) (ps : Array Value) (X : List (Addr × Obj)) : Prop where
  ok : TriplesOk ps.toList
  has : codeAmong pos ps.toList = none ∨ ∃ c', codeAmong pos ps.toList = some (.ref c') ∧ c' ≠ P ∧ ∀ h m, Fr h₀ L h m → News h₀ L h X → h.CodeRec (.ref c') qual
/-- a code object's entry -/
def CodeKind (p : Addr × Obj) : Prop := ∃ vs q t, p.2.data = .fields vs ∧ vs[1]? = some (.str q t)
theorem TabOk.into {h₀ h : Heap} {L P : Addr} {m : Str → Option Value} {pos : Pos} {qual : Str} (T : TabOk h P pos qual) (F : Fr h₀ L h m) :
    ∃ ps X, h.get? P = some (tabObj ps) ∧ TabIn h₀ L P pos qual ps X ∧ News h₀ L h X ∧ ∀ p ∈ X, CodeKind p := by
  obtain ⟨ps, hP, ok, hq⟩ := T
  rcases hq with hq | ⟨c', e1, e2, c₀, o, vs, t, z, g, hd, hv⟩
  · exact ⟨ps, [], hP, ⟨ok, .inl hq⟩, (fun _ hp => nomatch hp), fun _ hp => nomatch hp⟩
  · cases z
    cases q : h₀.get? c' with
    | some o' =>
      have : o' = o := by have := F.keep _ _ q; rw [g] at this; exact (Option.some.inj this).symm
      subst this
      exact ⟨ps, [], hP, ⟨ok, .inr ⟨c', e1, e2, fun h' m' F' _ => ⟨c', o', vs, t, rfl, F'.keep _ _ q, hd, hv⟩⟩⟩, (fun _ hp => nomatch hp), fun _ hp => nomatch hp⟩
    | none =>
      refine ⟨ps, [(c', o)], hP, ⟨ok, .inr ⟨c', e1, e2, fun h' m' _ N' => ⟨c', o, vs, t, rfl, (N' _ (.head _)).1, hd, hv⟩⟩⟩, fun p hp => ?_, fun p hp => ?_⟩
      · rw [List.mem_singleton.mp hp]
        refine ⟨g, fun e => ?_, q⟩
        obtain ⟨oL, es, ep, e', d', _⟩ := F.ns
        rw [← e, g] at e'
        cases e'
        rw [hd] at d'
        cases d'
      · rw [List.mem_singleton.mp hp]
        exact ⟨vs, _, t, hd, hv⟩
theorem TabIn.out {h₀ h : Heap} {L P : Addr} {m : Str → Option Value} {pos : Pos} {qual : Str} {ps : Array Value} {X : List (Addr × Obj)} (T : TabIn h₀ L P pos qual ps X) (F : Fr h₀ L h m) (N : News h₀ L h X) (hP : h.get? P = some (tabObj ps)) : TabOk h P pos qual :=
  ⟨ps, hP, T.ok, T.has.imp id fun ⟨c', a, b, c⟩ => ⟨c', a, b, c _ _ F N⟩⟩
theorem triples_no {ps : Array Value} {q : Str} {t : Tok} (h : TriplesOk ps.toList) : ps[1]? ≠ some (.str q t) := by
  obtain ⟨l⟩ := ps
  intro e
  have e' : l[1]? = some (Value.str q t) := by simpa using e
  match l, h, e' with
  | [], _, e => exact nomatch e
  | .int _ _ :: .int _ _ :: _ :: _, _, e => exact nomatch e
/-- a table of the written heap, its frame hiding what it does not need -/
theorem TabOk.start {h h₀ : Heap} {P : Addr} {pos : Pos} {qual : Str} {as : List Addr} (T : TabOk h P pos qual) (k : Ext as h h₀) (ha : ∀ a ∈ as, ∃ ps, h.get? a = some (tabObj ps) ∧ TriplesOk ps.toList) : ∃ ps, h.get? P = some (tabObj ps) ∧ ∀ L, TabIn h₀ L P pos qual ps [] := by
  obtain ⟨ps, hP, ok, hq⟩ := T
  refine ⟨ps, hP, fun L => ⟨ok, hq.imp id fun ⟨c', e1, e2, c₀, o, vs, t, z, g, hd, hv⟩ => ?_⟩⟩
  cases z
  refine ⟨c', e1, e2, fun h' m' F' _ => ⟨c', o, vs, t, rfl, F'.keep _ _ (k _ _ (fun q => ?_) g), hd, hv⟩⟩
  obtain ⟨ps', e, ok'⟩ := ha _ q
  rw [g] at e
  cases e
  cases hd
  exact triples_no ok' hv
theorem codeKind_ne {h₀ h : Heap} {L D : Addr} {o : Obj} {X : List (Addr × Obj)} (N : News h₀ L h X) (hX : ∀ p ∈ X, CodeKind p) (hD : h.get? D = some o) (hk : ∀ vs q t, o.data = .fields vs → vs[1]? ≠ some (.str q t)) : ∀ p ∈ X, p.1 ≠ D := by
  intro p hp e
  obtain ⟨vs, q, t, a, b⟩ := hX p hp
  have := (N p hp).1
  rw [e, hD] at this
  cases this
  exact hk _ _ _ a b
end Mine
end
local macro_rules | `(tactic| walk_at "newList") => `(tactic| (refine Mine.f_list (by assumption) (by assumption) (Nat.le_of_ble_eq_true rfl) ?_; intro _ _ _ _ _))
local macro_rules | `(tactic| walk_at "newTuple") => `(tactic| (refine Mine.f_tup (by assumption) (by assumption) (Nat.le_of_ble_eq_true rfl) ?_; intro _ _ _ _ _))
local macro_rules | `(tactic| walk_at "exec For") => `(tactic| refine Mine.f_for (by intro _; rfl) ?_)
local macro_rules | `(tactic| walk_at "exec Assign cons") => `(tactic| first | refine wpAny_Assign_Name (hs := by kernel_rfl) ?_ | refine wpAny_Assign_Subscript (hs := by kernel_rfl) ?_ | refine PyProof.Rows.Assign_Tuple (hs := by kernel_rfl) (hw := by kernel_rfl) ?_)
local macro_rules | `(tactic| walk_at "eval Name") => `(tactic| (refine Mine.nm_loc (by assumption) (by kernel_rfl) (by kernel_rfl) (by decide) (by first | exact Mine.lk_hit | assumption | exact Mine.lk_of (by with_unfolding_all rfl) | ((repeat refine Mine.lk_miss (by kernel_rfl) ?_); first | exact Mine.lk_hit | assumption)) ?_))
local macro_rules | `(tactic| walk_at "loadName") => `(tactic| (refine Mine.ldn_loc (by assumption) (by kernel_rfl) (by kernel_rfl) (by first | exact Mine.lk_hit | assumption | exact Mine.lk_of (by with_unfolding_all rfl) | ((repeat refine Mine.lk_miss (by kernel_rfl) ?_); first | exact Mine.lk_hit | assumption)) ?_))
section
theorem Mine.freshT15 : True := by
  w_top off
  trivial
namespace Mine
variable {w : World} {mg mb : Str → Option Value}
/-- the quotient digit at place i -/
def qd (n a b i : Nat) : Nat := ((a / 2 ^ (n * (i + 1)) % b) * 2 ^ n + dig n a i) / b
theorem dig_step {n a i : Nat} : a / 2 ^ (n * i) = (a / 2 ^ (n * (i + 1))) * 2 ^ n + dig n a i := by
  unfold dig
  have e : a / 2 ^ (n * (i + 1)) = a / 2 ^ (n * i) / 2 ^ n := by rw [Nat.div_div_eq_div_mul, ← Nat.pow_add, Nat.mul_add, Nat.mul_one]
  rw [e]
  have := Nat.div_add_mod (a / 2 ^ (n * i)) (2 ^ n)
  rw [Nat.mul_comm] at this
  exact this.symm
theorem qd_step {n a b i : Nat} (hb : 0 < b) : a / 2 ^ (n * i) / b = qd n a b i + 2 ^ n * (a / 2 ^ (n * (i + 1)) / b) := by
  have e := dig_step (n := n) (a := a) (i := i)
  unfold qd
  generalize a / 2 ^ (n * (i + 1)) = A at *
  rw [e]
  have h := Nat.div_add_mod A b
  have : A * 2 ^ n + dig n a i = (A % b * 2 ^ n + dig n a i) + b * (2 ^ n * (A / b)) := by
    generalize A / b = q at *
    generalize A % b = r at *
    subst h
    generalize 2 ^ n = x
    grind
  rw [this, Nat.add_mul_div_left _ _ hb]
theorem rem_step {n a b i : Nat} : a / 2 ^ (n * i) % b = ((a / 2 ^ (n * (i + 1)) % b) * 2 ^ n + dig n a i) % b := by
  rw [dig_step (n := n) (a := a) (i := i)]
  generalize a / 2 ^ (n * (i + 1)) = A
  conv => lhs; rw [Nat.add_mod, Nat.mul_mod]
  conv => rhs; rw [Nat.add_mod, Nat.mul_mod]
  simp
theorem qd_val {n a b : Nat} (hb : 0 < b) : ∀ {k i : Nat}, val n (qd n a b) i k + 2 ^ (n * k) * (a / 2 ^ (n * (i + k)) / b) = a / 2 ^ (n * i) / b
  | 0, i => by simp [val]
  | k + 1, i => by
    have ih := qd_val (n := n) (a := a) hb (k := k) (i := i + 1)
    rw [qd_step (i := i) hb, ← ih]
    show qd n a b i + 2 ^ n * val n (qd n a b) (i + 1) k + _ = _
    rw [show i + (k + 1) = i + 1 + k by omega, Nat.mul_add n k 1, Nat.mul_one, Nat.pow_add]
    generalize 2 ^ n = x
    generalize 2 ^ (n * k) = y
    grind
theorem qd_all {n a b m : Nat} (hb : 0 < b) (ha : a < 2 ^ (n * m)) : val n (qd n a b) 0 m = a / b := by
  have := qd_val (n := n) (a := a) hb (k := m) (i := 0)
  rw [Nat.zero_add, Nat.mul_zero, Nat.pow_zero, Nat.div_one, Nat.div_eq_of_lt ha, Nat.zero_div, Nat.mul_zero, Nat.add_zero] at this
  exact this
theorem dig_lt {n a i : Nat} : dig n a i < 2 ^ n := by unfold dig; exact Nat.mod_lt _ (Nat.two_pow_pos n)
theorem rd_lt {n a b i : Nat} (hb : 0 < b) : (a / 2 ^ (n * (i + 1)) % b) * 2 ^ n + dig n a i < b * 2 ^ n := by
  have h1 := Nat.mod_lt (a / 2 ^ (n * (i + 1))) hb
  have h2 := dig_lt (n := n) (a := a) (i := i)
  have : (a / 2 ^ (n * (i + 1)) % b + 1) * 2 ^ n ≤ b * 2 ^ n := Nat.mul_le_mul_right _ h1
  rw [Nat.add_mul, Nat.one_mul] at this
  omega
theorem qd_lt {n a b i : Nat} (hb : 0 < b) : qd n a b i < 2 ^ n := by
  unfold qd
  rw [Nat.div_lt_iff_lt_mul hb, Nat.mul_comm (2 ^ n)]
  exact rd_lt hb
theorem fdiv_N {a b : Nat} : (a : Int).fdiv (b : Int) = ((a / b : Nat) : Int) := by
  rw [Int.fdiv_eq_ediv_of_nonneg _ (by omega)]; push_cast; rfl
theorem fmod_N {a b : Nat} : (a : Int).fmod (b : Int) = ((a % b : Nat) : Int) := by
  rw [Int.fmod_eq_emod_of_nonneg _ (by omega)]; push_cast; rfl
theorem div2n1n_N {prog : Program} {A : Around} {s : Shared} {a b n : Nat} {t1 t2 t3 : Tok} {Q : Value → Shared → Prop} {E : Value → Shared → Prop}
    (G : Gl w mg mb s.heap) (hb : 0 < b) (hs : b < 2 ^ 1000) (hn : a < 2 ^ 4000) (hroom : A.depth < recursionLimit)
    (h : ∀ r h' tk' t1 t2, Ext [] s.heap h' → IsTup h' r #[.int (a / b : Nat) t1, .int (a % b : Nat) t2] → Q (.ref r) { s with heap := h', toks := tk' }) :
    wpAny (model prog w) A (call (.ref 66) [.int (a : Nat) t1, .int (b : Nat) t2, .int (n : Nat) t3]) Q E s := by
  refine div2n1n_spec G (by omega) (by unfold Sm; rwa [Int.natAbs_natCast]) (by have := bits_le hn; omega) hroom fun r h' tk' t1 t2 k T => ?_
  rw [fdiv_N, fmod_N] at T
  exact h r h' tk' t1 t2 k T
end Mine
end
section
theorem Mine.freshT16 : True := by
  w_top off
  trivial
namespace Mine
variable {w : World} {mg mb : Str → Option Value}
local macro_rules | `(tactic| walk_at "eval Constant int") => `(tactic| first | refine f_int1 ?_ | refine f_int0 ?_)
local macro_rules | `(tactic| walk_at "binaryOp Add int int") => `(tactic| refine f_addN ?_)
local macro_rules | `(tactic| walk_at "binaryOp LShift int int") => `(tactic| refine f_shlN (by assumption) ?_)
/-- what a division keeps of the tables -/
def Tabs (w : World) (h : Heap) : Prop := TabOk h 75 (p80 w) q80 ∧ TabOk h 82 (p87 w) q87
theorem divmod_pos_spec {prog : Program} {A : Around} {s : Shared} {a b : Nat} {t1 t2 : Tok} {Q E : Value → Shared → Prop} (G : Gl w mg mb s.heap) (hb : 0 < b) (hb4 : b < 2 ^ 400) (ha : a < 2 ^ (Builtin.Int.intBits (b : Int) * 10)) (T : Tabs w s.heap) (hh : A.handled = none) (hroom : A.depth + 40 < recursionLimit)
    (h : ∀ r h' tk' u1 u2, Ext [75, 82] s.heap h' → Tabs w h' → IsTup h' r #[.int (a / b : Nat) u1, .int (a % b : Nat) u2] → Q (.ref r) { s with heap := h', toks := tk' }) :
    wpAny (model prog w) A (call (.ref 94) [.int (a : Nat) t1, .int (b : Nat) t2]) Q E s := by
  obtain ⟨T75, T82⟩ := T
  have hide : Ext [75, 82] s.heap (hideAll s.heap [75, 82]) := fun b o hb e => hideAll_get _ e hb
  obtain ⟨ps₀, hP₀, ok₀, hq₀⟩ := id T75
  obtain ⟨rs₀, hR₀, okr₀, hr₀⟩ := id T82
  have has : ∀ x ∈ [75, 82], ∃ ps, s.heap.get? x = some (tabObj ps) ∧ TriplesOk ps.toList := fun x hx => by
    rcases List.mem_cons.mp hx with rfl | hx
    · exact ⟨_, hP₀, ok₀⟩
    · rw [List.mem_singleton.mp hx]; exact ⟨_, hR₀, okr₀⟩
  obtain ⟨ps, hP, I75⟩ := T75.start hide has
  obtain ⟨rs, hR, I82⟩ := T82.start hide has
  refine wpAny_call (enterP (body := [_, _, _, _, _, _, _, _]) [("b", .int (b : Nat) t2), ("a", .int (a : Nat) t1)] [(75, tabObj ps), (82, tabObj rs)] G.nolimit
    (fun p hp => by
      rcases List.mem_cons.mp hp with rfl | hp
      · exact hP
      · rw [List.mem_singleton.mp hp]; exact hR) (G.X 94 _ rfl) rfl (codeRec_of G.X (by kernel_rfl)) (by omega) (.of_eq (by kernel_rfl)) (by kernel_rfl) (fun L h₁ tk F N lD => ?_) (by kernel_rfl) (by kernel_rfl) (by kernel_rfl) (by kernel_rfl))
  have GH : Gl w mg mb (hideAll s.heap [75, 82]) := G.but (as := [75, 82]) (fun x hx => by
    rcases List.mem_cons.mp hx with rfl | hx
    · exact ⟨by kernel_rfl, _, hP, (fun _ _ e => by cases e), fun e => by cases e⟩
    · rw [List.mem_singleton.mp hx]; exact ⟨by kernel_rfl, _, hR, (fun _ _ e => by cases e), fun e => by cases e⟩) hide
  have l75 := ltN (lD (75, tabObj ps) (.head _))
  have l82 := ltN (lD (82, tabObj rs) (.tail _ (.head _)))
  clear lD
  simp only [List.map_cons, List.map_nil] at F N
  obtain ⟨n, hn⟩ : ∃ n, n = Builtin.Int.intBits (b : Int) := ⟨_, rfl⟩
  have hn4 : n ≤ 400 := by rw [hn]; exact bits_le hb4
  have hbn : b < 2 ^ n := by rw [hn]; exact bits_lt b
  have hn1 : 1 ≤ n := by
    apply Nat.pos_of_ne_zero
    intro e
    rw [e] at hbn
    omega
  rw [← hn] at ha
  iterate 20 walk1
  rename_i h₂ tk₂ F₂ N₂
  rw [← hn] at F₂ ⊢
  have T75' : TabOk h₂ 75 (p80 w) q80 := (I75 L).out F₂ (fun _ hp => nomatch hp) (N₂ (75, tabObj ps) (.head _)).1
  refine int2digits_spec (GH.keeps F₂.keep) hn1 hn4 ha T75' (room1 hroom) fun D its h₃ tk₃ k₃ hfr hD hsz hdig T75₃ => ?_
  have F₃ := fr_ext F₂ (fun x hx => by rw [List.mem_singleton.mp hx]; exact (N₂ (75, tabObj ps) (.head _)).2) k₃
  have hDf := fresh_of F₂ hfr
  have hD75 : D ≠ 75 := fun e => by rw [e, (N₂ (75, tabObj ps) (.head _)).1] at hfr; cases hfr
  have hD82 : D ≠ 82 := fun e => by rw [e, (N₂ (82, tabObj rs) (.tail _ (.head _))).1] at hfr; cases hfr
  obtain ⟨ps₃, X, hP₃, J75, NX, hXk⟩ := T75₃.into F₃
  have N₃ : News (hideAll s.heap [75, 82]) L h₃ ((D, listOf its 0) :: (82, tabObj rs) :: (75, tabObj ps₃) :: X) := fun p hp => by
    rcases List.mem_cons.mp hp with rfl | hp
    · exact ⟨hD, hDf⟩
    · rcases List.mem_cons.mp hp with rfl | hp
      · exact ⟨k₃ _ _ (show ¬ (82 : Nat) ∈ [75] by decide) (N₂ (82, tabObj rs) (.tail _ (.head _))).1, (N₂ (82, tabObj rs) (.tail _ (.head _))).2⟩
      · rcases List.mem_cons.mp hp with rfl | hp
        · exact ⟨hP₃, (N₂ (75, tabObj ps) (.head _)).2⟩
        · exact NX p hp
  have hX82 := codeKind_ne NX hXk (N₃ (82, tabObj rs) (.tail _ (.head _))).1 (fun vs q t e => by cases e; exact triples_no (I82 L).ok)
  have hX75 := codeKind_ne NX hXk (N₃ (75, tabObj ps₃) (.tail _ (.tail _ (.head _)))).1 (fun vs q t e => by cases e; exact triples_no J75.ok)
  have hXD := codeKind_ne NX hXk (N₃ (D, listOf its 0) (.head _)).1 (fun vs q t e => by cases e)
  clear N₂ F₂ NX k₃ hfr T75' T75₃
  iterate 22 walk1
  rename_i Dq h₄ F₄ N₄ l₄ h₅ tk₅ F₅ N₅
  have hXq : ∀ p ∈ X, p.1 ≠ Dq := fun p hp => Nat.ne_of_lt (l₄ p (.tail _ (.tail _ (.tail _ hp))))
  have hRq : ∀ p ∈ (D, listOf its 0) :: (82, tabObj rs) :: (75, tabObj ps₃) :: X, p.1 ≠ Dq := fun p hp => Nat.ne_of_lt (l₄ p hp)
  k_lt l₄
  have hm10 : its.size ≤ 10 := by rw [hsz]; exact cnt_le hn1 ha
  refine f_reversed F₅ N₅ (N₅ (D, listOf its 0) (by k_mem)).1 fun I h₆ o₆ F₆ N₆ l₆ hc₆ hd₆ => ?_
  have hI : ∀ {qs : Array Value} {ep : Nat}, ∀ p ∈ (Dq, listOf qs ep) :: (D, listOf its 0) :: (82, tabObj rs) :: (75, tabObj ps₃) :: X, p.1 ≠ I := by
    intro qs ep p hp
    rcases List.mem_cons.mp hp with rfl | hp
    · exact Nat.ne_of_lt (l₆ (Dq, listOf #[] 0) (.head _))
    · exact Nat.ne_of_lt (l₆ p (.tail _ hp))
  refine iter_rev N₆ hc₆ hd₆ ?_
  refine loop_ruleP lv_passes (fun j s' => Ex7 fun h' tk' l' o' qs ep t => All11 (s' = ⟨h', s.gens, s.drawn, tk', s.os⟩) (Fr (hideAll s.heap [75, 82]) L h' (lk l')) (News (hideAll s.heap [75, 82]) L h' ((I, o') :: (Dq, listOf qs ep) :: (D, listOf its 0) :: (82, tabObj rs) :: (75, tabObj ps₃) :: X)) (o'.cls = .type "list_reverseiterator") (o'.data = .fields #[.ref D, rawInt ((its.size : Int) - 1 - j)]) (qs.size = j) (∀ k, k < j → ∃ t, qs[k]? = some (.int (qd n a b (its.size - 1 - k) : Nat) t)) (lk l' (Str.ofString "r") = some (.int (a / 2 ^ (n * (its.size - j)) % b : Nat) t)) (lk l' (Str.ofString "q_digits") = some (.ref Dq)) (lk l' (Str.ofString "b") = some (.int (b : Nat) t2)) (lk l' (Str.ofString "n") = some (.int (n : Nat) tk))) its.size ?h0 ?turn ?done
  case h0 =>
    have e0 : a / 2 ^ (n * (its.size - 0)) % b = 0 := by
      rw [Nat.sub_zero, hsz, Nat.div_eq_of_lt (cnt_fit hn1), Nat.zero_mod]
    exact ⟨_, _, _, o₆, #[], 0, _, rfl, F₆, N₆, hc₆, by rw [hd₆]; simp, rfl, (fun k hk => absurd hk (Nat.not_lt_zero k)), (by rw [e0]; exact lk_miss (by kernel_rfl) lk_hit), lk_hit, lk_of (by rfl), lk_of (by rfl)⟩
  case done =>
    rintro Pd1 Xd1 hPd1 _ ⟨h', tk', l', o', qs, ep, t, rfl, F', N', hc', hd', hqs, hq, hr, hql, hbl, hnl⟩
    refine next_rev_end (D := D) hh F' N' hI hc' (by rw [hd', show (its.size : Int) - 1 - (its.size : Nat) = -1 by omega]) fun h₇ F₇ N₇ => ⟨rfl, hPd1 _ ?_⟩
    iterate 7 walk1
    refine f_reverse F₇ N₇ (.head hRq) (fun h₈ F₈ N₈ => ?_) (by omega)
    iterate 12 walk1
    have hD₈ := (N₈ (Dq, listOf qs.toList.reverse.toArray ep) (by k_mem)).1
    have hsr : (qs.toList.reverse.toArray).size = its.size := by simp [hqs]
    refine digits2int_spec (GH.keeps F₈.keep) hn4 (d := qd n a b) (fun i => qd_lt hb) hD₈ (by omega) (fun i hi => ?_) ((I82 L).out F₈ (fun _ hp => nomatch hp) (N₈ (82, tabObj rs) (by k_mem)).1) (room1 hroom) fun h₉ tk₉ t₉ k₉ T82₉ => ?_
    · rw [hsr] at hi
      obtain ⟨t', e'⟩ := hq (its.size - 1 - i) (by omega)
      rw [show its.size - 1 - (its.size - 1 - i) = i by omega] at e'
      refine ⟨t', ?_⟩
      rw [List.getElem?_toArray, List.getElem?_reverse (by simp; omega)]
      simpa [hqs] using e'
    rw [hsr]
    have F₉ := fr_ext F₈ (fun x hx => by rw [List.mem_singleton.mp hx]; exact (N₈ (82, tabObj rs) (by k_mem)).2) k₉
    obtain ⟨rs₉, Y, hR₉, J82, NY, hYk⟩ := T82₉.into F₉
    have N₉ : News (hideAll s.heap [75, 82]) L h₉ ((75, tabObj ps₃) :: (82, tabObj rs₉) :: (X ++ Y)) := fun p hp => by
      rcases List.mem_cons.mp hp with rfl | hp
      · exact ⟨k₉ _ _ (show ¬ (75 : Nat) ∈ [82] by decide) (N₈ (75, tabObj ps₃) (by k_mem)).1, (N₈ (75, tabObj ps₃) (by k_mem)).2⟩
      · rcases List.mem_cons.mp hp with rfl | hp
        · exact ⟨hR₉, (N₈ (82, tabObj rs) (by k_mem)).2⟩
        · rcases List.mem_append.mp hp with hp | hp
          · exact ⟨k₉ _ _ (fun e => hX82 p hp (List.mem_singleton.mp e)) (N₈ p (.tail _ (.tail _ (.tail _ (.tail _ hp))))).1, (N₈ p (.tail _ (.tail _ (.tail _ (.tail _ hp))))).2⟩
          · exact NY p hp
    clear N₈ NY
    iterate 13 walk1
    rename_i h_a tk_a F_a N_a t_t h_t F_t N_t l_t
    have hend : a / 2 ^ (n * (its.size - its.size)) % b = a % b := by rw [Nat.sub_self, Nat.mul_zero, Nat.pow_zero, Nat.div_one]
    rw [hend, qd_all hb (by rw [hsz]; exact cnt_fit hn1)] at N_t
    refine h _ _ _ _ _ (fun x o hx e => F_t.keep _ _ (hide _ _ hx e)) ⟨J75.out F_t (fun p hp => N_t p ?_) (N_t (75, tabObj ps₃) (by k_mem)).1, J82.out F_t (fun p hp => N_t p ?_) (N_t (82, tabObj rs₉) (by k_mem)).1⟩ (N_t.isTup (.head _))
    · exact .tail _ (.tail _ (.tail _ (List.mem_append_left _ hp)))
    · exact .tail _ (.tail _ (.tail _ (List.mem_append_right _ hp)))
  case turn =>
    rintro Po1 Xo1 hXo1 j _ hj hPo1 ⟨h', tk', l', o', qs, ep, t, rfl, F', N', hc', hd', hqs, hq, hr, hql, hbl, hnl⟩
    obtain ⟨t₀, hx⟩ := hdig (its.size - 1 - j) (by omega)
    rw [show (its.size : Int) - 1 - (j : Nat) = ((its.size - 1 - j : Nat) : Int) by omega] at hd'
    refine next_rev F' N' hI hc' hd' (N' (D, listOf its 0) (by k_mem)).1 hx fun h₇ o₇ F₇ N₇ hc₇ hd₇ => ⟨_, rfl, ?_⟩
    refine wpAny_of_eq rfl (assign_Name ?_)
    have hsh : Builtin.Int.intBits ((a / 2 ^ (n * (its.size - j)) % b : Nat) : Int) + n ≤ 2 ^ 27 := by
      have : Builtin.Int.intBits ((a / 2 ^ (n * (its.size - j)) % b : Nat) : Int) ≤ 400 := bits_le (Nat.lt_trans (Nat.mod_lt _ hb) hb4)
      omega
    obtain ⟨i, hi⟩ : ∃ i, i = its.size - 1 - j := ⟨_, rfl⟩
    have hi1 : its.size - j = i + 1 := by omega
    rw [hi1] at hr hsh
    rw [← hi] at hx hd₇ ⊢
    iterate 20 walk1
    rename_i h₈ tk₈ F₈ N₈
    have hlt := rd_lt (n := n) (a := a) (i := i) hb
    refine div2n1n_N (GH.keeps F₈.keep) hb (Nat.lt_trans hb4 (by decide +kernel)) ?_ (room0 hroom) fun r h₉ tk₉ u1 u2 k₉ T₉ => ?_
    · refine Nat.lt_of_lt_of_le hlt ?_
      refine Nat.le_trans (Nat.mul_le_mul (Nat.le_of_lt hb4) (Nat.pow_le_pow_right (by decide) hn4)) ?_
      rw [← Nat.pow_add]
      exact Nat.pow_le_pow_right (by decide) (by decide)
    have F₉ := fr_ext F₈ (as := []) (fun x hx => nomatch hx) k₉
    have N₉ := news_keep N₈ fun b o e => k₉ b o List.not_mem_nil e
    refine f_unpack2 F₉ N₉ T₉ hh fun h_a F_a N_a => ?_
    iterate 12 walk1
    rename_i h_b tk_b F_b N_b h_c tk_c F_c N_c
    refine f_append F_c N_c (.tail (fun e => hI (qs := qs) (ep := ep) (Dq, _) (.head _) e.symm) (.head hRq)) (fun h_d F_d N_d => ?_) (by omega)
    iterate 2 walk1
    refine hPo1 _ _ (lp_next ?_)
    refine ⟨_, _, _, o₇, _, _, u2, rfl, F_d, N_d, hc₇, ?_, ?_, fun k hk => ?_, ?_, ?_, ?_, ?_⟩
    · rw [hd₇, show (its.size : Int) - 1 - ((j + 1 : Nat) : Int) = (i : Int) - 1 by omega]
    · rw [Array.size_push, hqs]
    · by_cases hkj : k < j
      · obtain ⟨t', e'⟩ := hq k hkj
        refine ⟨t', ?_⟩
        rw [Array.getElem?_push, if_neg (by omega)]
        exact e'
      · have : k = j := by omega
        subst this
        refine ⟨u1, ?_⟩
        rw [Array.getElem?_push, if_pos (by omega), ← hi]
        rfl
    · refine lk_hit.trans ?_
      rw [show its.size - (j + 1) = i by omega, rem_step (n := n) (a := a) (b := b) (i := i)]
    · exact lk_miss (by kernel_rfl) (lk_miss (by kernel_rfl) (lk_miss (by kernel_rfl) hql))
    · exact lk_miss (by kernel_rfl) (lk_miss (by kernel_rfl) (lk_miss (by kernel_rfl) hbl))
    · exact lk_miss (by kernel_rfl) (lk_miss (by kernel_rfl) (lk_miss (by kernel_rfl) hnl))
end Mine
end
section
theorem Mine.freshT17 : True := by
  w_top off
  trivial
namespace Mine
variable {w : World} {mg mb : Str → Option Value}
/-- a frame that does not touch the tables itself -/
structure TabsF (w : World) (mg mb : Str → Option Value) (h : Heap) where
  ps : Array Value
  rs : Array Value
  p : h.get? 75 = some (tabObj ps)
  r : h.get? 82 = some (tabObj rs)
  G : Gl w mg mb (hideAll h [75, 82])
  I : ∀ L, TabIn (hideAll h [75, 82]) L 75 (p80 w) q80 ps []
  J : ∀ L, TabIn (hideAll h [75, 82]) L 82 (p87 w) q87 rs []
theorem hide2 {h : Heap} : Ext [75, 82] h (hideAll h [75, 82]) := fun _ _ hb e => hideAll_get _ e hb
theorem Tabs.hide {h : Heap} (T : Tabs w h) (G : Gl w mg mb h) : Nonempty (TabsF w mg mb h) := by
  obtain ⟨T75, T82⟩ := T
  obtain ⟨ps₀, hP₀, ok₀, hq₀⟩ := id T75
  obtain ⟨rs₀, hR₀, okr₀, hr₀⟩ := id T82
  have has : ∀ x ∈ [75, 82], ∃ ps, h.get? x = some (tabObj ps) ∧ TriplesOk ps.toList := fun x hx => by
    rcases List.mem_cons.mp hx with rfl | hx
    · exact ⟨_, hP₀, ok₀⟩
    · rw [List.mem_singleton.mp hx]; exact ⟨_, hR₀, okr₀⟩
  obtain ⟨ps, hP, I75⟩ := T75.start hide2 has
  obtain ⟨rs, hR, I82⟩ := T82.start hide2 has
  refine ⟨⟨ps, rs, hP, hR, ?_, I75, I82⟩⟩
  refine G.but (as := [75, 82]) (fun x hx => ?_) hide2
  rcases List.mem_cons.mp hx with rfl | hx
  · exact ⟨by kernel_rfl, _, hP, (fun _ _ e => by cases e), fun e => by cases e⟩
  · rw [List.mem_singleton.mp hx]; exact ⟨by kernel_rfl, _, hR, (fun _ _ e => by cases e), fun e => by cases e⟩
theorem TabsF.tabs {h h' : Heap} {L : Addr} {m : Str → Option Value} (T : TabsF w mg mb h) (F : Fr (hideAll h [75, 82]) L h' m) (N : News (hideAll h [75, 82]) L h' [(75, tabObj T.ps), (82, tabObj T.rs)]) : Tabs w h' :=
  ⟨(T.I L).out F (fun _ hp => nomatch hp) (N _ (.head _)).1, (T.J L).out F (fun _ hp => nomatch hp) (N _ (.tail _ (.head _))).1⟩
/-- a callee has handed the tables back -/
theorem TabsF.back {h h' h'' : Heap} {L : Addr} {m : Str → Option Value} (T : TabsF w mg mb h) (F : Fr (hideAll h [75, 82]) L h' m) (N : News (hideAll h [75, 82]) L h' [(75, tabObj T.ps), (82, tabObj T.rs)]) (k : Ext [75, 82] h' h'') (T' : Tabs w h'') :
    Fr (hideAll h [75, 82]) L h'' m ∧ ∃ news, News (hideAll h [75, 82]) L h'' news ∧ ∀ h₃ m₃, Fr (hideAll h [75, 82]) L h₃ m₃ → News (hideAll h [75, 82]) L h₃ news → Tabs w h₃ := by
  have F' : Fr (hideAll h [75, 82]) L h'' m := fr_ext F (fun x hx => by
    rcases List.mem_cons.mp hx with rfl | hx
    · exact (N (75, _) (.head _)).2
    · rw [List.mem_singleton.mp hx]; exact (N (82, _) (.tail _ (.head _))).2) k
  refine ⟨F', ?_⟩
  obtain ⟨ps, X, hP, I, NX, _⟩ := T'.1.into F'
  obtain ⟨rs, Y, hR, J, NY, _⟩ := T'.2.into F'
  refine ⟨(75, tabObj ps) :: (82, tabObj rs) :: (X ++ Y), fun p hp => ?_, fun h₃ m₃ F₃ N₃ => ⟨I.out F₃ (fun p hp => N₃ p ?_) (N₃ (75, tabObj ps) (.head _)).1, J.out F₃ (fun p hp => N₃ p ?_) (N₃ (82, tabObj rs) (.tail _ (.head _))).1⟩⟩
  · rcases List.mem_cons.mp hp with rfl | hp
    · exact ⟨hP, (N (75, _) (.head _)).2⟩
    · rcases List.mem_cons.mp hp with rfl | hp
      · exact ⟨hR, (N (82, _) (.tail _ (.head _))).2⟩
      · rcases List.mem_append.mp hp with hp | hp
        · exact NX p hp
        · exact NY p hp
  · exact .tail _ (.tail _ (List.mem_append_left _ hp))
  · exact .tail _ (.tail _ (List.mem_append_right _ hp))
theorem bits_natAbs (b : Int) : Builtin.Int.intBits b = Builtin.Int.intBits (b.natAbs : Int) := by
  unfold Builtin.Int.intBits
  simp
/-- an int_divmod of a pair that is not negative -/
theorem int_divmod_pos {prog : Program} {A : Around} {s : Shared} {a b : Int} {t1 t2 : Tok} {Q E : Value → Shared → Prop} (G : Gl w mg mb s.heap) (hb : 0 < b) (ha0 : 0 ≤ a) (hb4 : b.natAbs < 2 ^ 400) (ha : a.natAbs < 2 ^ (Builtin.Int.intBits b * 10)) (T : Tabs w s.heap) (hh : A.handled = none) (hroom : A.depth + 50 < recursionLimit)
    (h : ∀ r h' tk' u1 u2, Ext [75, 82] s.heap h' → Tabs w h' → IsTup h' r #[.int (a.fdiv b) u1, .int (a.fmod b) u2] → Q (.ref r) { s with heap := h', toks := tk' }) :
    wpAny (model prog w) A (call (.ref 101) [.int a t1, .int b t2]) Q E s := by
  obtain ⟨H⟩ := T.hide G
  refine wpAny_call (enterP (body := [_]) [("b", .int b t2), ("a", .int a t1)] [(75, tabObj H.ps), (82, tabObj H.rs)] G.nolimit
    (fun p hp => by
      rcases List.mem_cons.mp hp with rfl | hp
      · exact H.p
      · rw [List.mem_singleton.mp hp]; exact H.r) (G.X 101 _ rfl) rfl (codeRec_of G.X (by kernel_rfl)) (by omega) (.of_eq (by kernel_rfl)) (by kernel_rfl) (fun L h₁ tk F N lD => ?_) (by kernel_rfl) (by kernel_rfl) (by kernel_rfl) (by kernel_rfl))
  have GH := H.G
  simp only [List.map_cons, List.map_nil] at F N
  clear lD
  have hb1 : ¬ b = 0 := by omega
  have hb2 : ¬ b < 0 := by omega
  have ha1 : ¬ a < 0 := by omega
  iterate 35 walk1
  obtain ⟨x, rfl⟩ : ∃ x : Nat, a = x := ⟨a.toNat, by omega⟩
  obtain ⟨y, rfl⟩ : ∃ y : Nat, b = y := ⟨b.toNat, by omega⟩
  rw [Int.natAbs_natCast] at hb4 ha
  refine divmod_pos_spec (GH.keeps F.keep) (by omega) hb4 ha (H.tabs F N) hh (room1 hroom) fun r h₂ tk₂ u1 u2 k₂ T₂ R => ?_
  obtain ⟨F₂, news, N₂, hT⟩ := H.back F N k₂ T₂
  iterate 5 walk1
  rw [fdiv_N, fmod_N] at h
  exact h _ _ _ _ _ (fun b o hb e => F₂.keep _ _ (hide2 _ _ hb e)) (hT _ _ F₂ N₂) R
theorem f_notN {prog : Program} {A : Around} {E : Value → Shared → Prop} {hp : Heap} {gs : Array GenState} {dr : Drawn} {tk : Nat} {os : OsState} {a : Int} {t : Tok} {Q : Value → Shared → Prop} (h : Q (.int (-a - 1) tk) ⟨hp, gs, dr, tk + 1, os⟩) : wpAny (model prog w) A (unaryOp .Invert (.int a t)) Q E ⟨hp, gs, dr, tk, os⟩ := by
  refine invert_int ?_
  have : Builtin.bitNot a = -a - 1 := by unfold Builtin.bitNot; omega
  rw [this]
  exact h
theorem f_neg {prog : Program} {A : Around} {E : Value → Shared → Prop} {hp : Heap} {gs : Array GenState} {dr : Drawn} {tk : Nat} {os : OsState} {a : Int} {t : Tok} {Q : Value → Shared → Prop} (h : Q (.int (-a) tk) ⟨hp, gs, dr, tk + 1, os⟩) : wpAny (model prog w) A (unaryOp .USub (.int a t)) Q E ⟨hp, gs, dr, tk, os⟩ := neg_int h
theorem fdiv_not {a b : Int} (hb : 0 < b) : -((-a - 1).fdiv b) - 1 = a.fdiv b ∧ b + (-((-a - 1).fmod b) - 1) = a.fmod b := by
  have h1 := Int.mul_fdiv_add_fmod (-a - 1) b
  have h2 := Int.fmod_nonneg_of_pos (-a - 1) hb
  have h3 := Int.fmod_lt_of_pos (-a - 1) hb
  have g1 := Int.mul_fdiv_add_fmod a b
  have g2 := Int.fmod_nonneg_of_pos a hb
  have g3 := Int.fmod_lt_of_pos a hb
  generalize (-a - 1).fdiv b = q at *
  generalize (-a - 1).fmod b = r at *
  generalize a.fdiv b = q' at *
  generalize a.fmod b = r' at *
  have e : b * (q + q' + 1) = b - 1 - r - r' := by
    have : b * (q + q' + 1) = b * q + b * q' + b := by rw [Int.mul_add, Int.mul_add, Int.mul_one]
    omega
  have hq : q + q' + 1 = 0 := by
    rcases Int.lt_trichotomy (q + q' + 1) 0 with h | h | h
    · have : b * (q + q' + 1) ≤ b * (-1) := Int.mul_le_mul_of_nonneg_left (by omega) (by omega)
      omega
    · exact h
    · have : b * 1 ≤ b * (q + q' + 1) := Int.mul_le_mul_of_nonneg_left (by omega) (by omega)
      omega
  rw [hq, Int.mul_zero] at e
  constructor <;> omega
local macro_rules | `(tactic| walk_at "unaryOp Invert int") => `(tactic| refine f_notN ?_)
local macro_rules | `(tactic| walk_at "unaryOp USub int") => `(tactic| refine f_neg ?_)
local macro_rules | `(tactic| walk_at "callWith ref") => `(tactic| (refine Mine.f_cw (by assumption) (by with_unfolding_all rfl) (by kernel_rfl) (by kernel_rfl) ?_))
theorem int_divmod_posb {prog : Program} {A : Around} {s : Shared} {a b : Int} {t1 t2 : Tok} {Q E : Value → Shared → Prop} (G : Gl w mg mb s.heap) (hb : 0 < b) (hb4 : b.natAbs < 2 ^ 400) (ha : a.natAbs < 2 ^ (Builtin.Int.intBits b * 10)) (T : Tabs w s.heap) (hh : A.handled = none) (hroom : A.depth + 60 < recursionLimit)
    (h : ∀ r h' tk' u1 u2, Ext [75, 82] s.heap h' → Tabs w h' → IsTup h' r #[.int (a.fdiv b) u1, .int (a.fmod b) u2] → Q (.ref r) { s with heap := h', toks := tk' }) :
    wpAny (model prog w) A (call (.ref 101) [.int a t1, .int b t2]) Q E s := by
  by_cases ha0 : 0 ≤ a
  · exact int_divmod_pos G hb ha0 hb4 ha T hh (by omega) h
  obtain ⟨H⟩ := T.hide G
  refine wpAny_call (enterP (body := [_]) [("b", .int b t2), ("a", .int a t1)] [(75, tabObj H.ps), (82, tabObj H.rs)] G.nolimit
    (fun p hp => by
      rcases List.mem_cons.mp hp with rfl | hp
      · exact H.p
      · rw [List.mem_singleton.mp hp]; exact H.r) (G.X 101 _ rfl) rfl (codeRec_of G.X (by kernel_rfl)) (by omega) (.of_eq (by kernel_rfl)) (by kernel_rfl) (fun L h₁ tk F N lD => ?_) (by kernel_rfl) (by kernel_rfl) (by kernel_rfl) (by kernel_rfl))
  have GH := H.G
  simp only [List.map_cons, List.map_nil] at F N
  clear lD
  have hb1 : ¬ b = 0 := by omega
  have hb2 : ¬ b < 0 := by omega
  have ha1 : a < 0 := by omega
  iterate 37 walk1
  refine int_divmod_pos (GH.keeps F.keep) hb (by omega) hb4 (Nat.lt_of_le_of_lt (by omega) ha) (H.tabs F N) hh (room1 hroom) fun r h₂ tk₂ u1 u2 k₂ T₂ R => ?_
  obtain ⟨F₂, news, N₂, hT⟩ := H.back F N k₂ T₂
  refine f_unpack2 F₂ N₂ R hh fun h₃ F₃ N₃ => ?_
  iterate 24 walk1
  rename_i h₄ tk₄ F₄ N₄ h₅ tk₅ F₅ N₅ r₆ h₆ F₆ N₆ l₆
  obtain ⟨e1, e2⟩ := fdiv_not (a := a) hb
  rw [e1, e2] at N₆
  exact h _ _ _ _ _ (fun b o hb e => F₆.keep _ _ (hide2 _ _ hb e)) (hT _ _ F₆ (fun p hp => N₆ p (.tail _ hp))) (N₆.isTup (.head _))
theorem fdiv_negs {a b : Int} (hb : b < 0) : (-a).fdiv (-b) = a.fdiv b ∧ -((-a).fmod (-b)) = a.fmod b := by
  have e : (-a).fdiv (-b) = a.fdiv b := Int.neg_fdiv_neg a b
  refine ⟨e, ?_⟩
  have h1 := Int.mul_fdiv_add_fmod (-a) (-b)
  have h2 := Int.mul_fdiv_add_fmod a b
  rw [e] at h1
  rw [Int.neg_mul] at h1
  omega
/-- int_divmod of a pair whose divisor is not nought -/
theorem int_divmod_spec {prog : Program} {A : Around} {s : Shared} {a b : Int} {t1 t2 : Tok} {Q E : Value → Shared → Prop} (G : Gl w mg mb s.heap) (hb : b ≠ 0) (hb4 : b.natAbs < 2 ^ 400) (ha : a.natAbs < 2 ^ (Builtin.Int.intBits b * 10)) (T : Tabs w s.heap) (hh : A.handled = none) (hroom : A.depth + 70 < recursionLimit)
    (h : ∀ r h' tk' u1 u2, Ext [75, 82] s.heap h' → Tabs w h' → IsTup h' r #[.int (a.fdiv b) u1, .int (a.fmod b) u2] → Q (.ref r) { s with heap := h', toks := tk' }) :
    wpAny (model prog w) A (call (.ref 101) [.int a t1, .int b t2]) Q E s := by
  by_cases hb0 : 0 < b
  · exact int_divmod_posb G hb0 hb4 ha T hh (by omega) h
  obtain ⟨H⟩ := T.hide G
  refine wpAny_call (enterP (body := [_]) [("b", .int b t2), ("a", .int a t1)] [(75, tabObj H.ps), (82, tabObj H.rs)] G.nolimit
    (fun p hp => by
      rcases List.mem_cons.mp hp with rfl | hp
      · exact H.p
      · rw [List.mem_singleton.mp hp]; exact H.r) (G.X 101 _ rfl) rfl (codeRec_of G.X (by kernel_rfl)) (by omega) (.of_eq (by kernel_rfl)) (by kernel_rfl) (fun L h₁ tk F N lD => ?_) (by kernel_rfl) (by kernel_rfl) (by kernel_rfl) (by kernel_rfl))
  have GH := H.G
  simp only [List.map_cons, List.map_nil] at F N
  clear lD
  have hb1 : ¬ b = 0 := by omega
  have hb2 : b < 0 := by omega
  iterate 31 walk1
  have hbits : Builtin.Int.intBits (-b) = Builtin.Int.intBits b := by rw [bits_natAbs (-b), bits_natAbs b, Int.natAbs_neg]
  refine int_divmod_posb (GH.keeps F.keep) (by omega) (by rw [Int.natAbs_neg]; exact hb4) (by rw [Int.natAbs_neg, hbits]; exact ha) (H.tabs F N) hh (room1 hroom) fun r h₂ tk₂ u1 u2 k₂ T₂ R => ?_
  obtain ⟨F₂, news, N₂, hT⟩ := H.back F N k₂ T₂
  refine f_unpack2 F₂ N₂ R hh fun h₃ F₃ N₃ => ?_
  iterate 18 walk1
  rename_i h₄ tk₄ F₄ N₄ h₅ tk₅ F₅ N₅ r₆ h₆ F₆ N₆ l₆
  obtain ⟨e1, e2⟩ := fdiv_negs (a := a) hb2
  rw [e1, e2] at N₆
  exact h _ _ _ _ _ (fun b o hb e => F₆.keep _ _ (hide2 _ _ hb e)) (hT _ _ F₆ (fun p hp => N₆ p (.tail _ hp))) (N₆.isTup (.head _))
/-- int_divmod by nought -/
theorem int_divmod_zero {prog : Program} {A : Around} {s : Shared} {a : Int} {t1 t2 : Tok} {Q E : Value → Shared → Prop} {base : Heap} {outer : List Env} (G : Gl w mg mb s.heap) (hh : A.handled = none) (hroom : A.depth < recursionLimit)
    (hfr : A.frames = some outer) (hkb : base.StaysIn s.heap) (hl : s.heap.FunFrames base outer)
    (h : ∀ e a0 h' tk', Heap.FlyingW base outer e (.type "ZeroDivisionError") a0 h' → s.heap.UpToSlots h' → E (.ref e) { s with heap := h', toks := tk' }) :
    wpAny (model prog w) A (call (.ref 101) [.int a t1, .int 0 t2]) Q E s := by
  refine wpAny_call (enter (body := [_]) [("b", .int 0 t2), ("a", .int a t1)] G (by rfl) (by kernel_rfl) hroom (.of_eq (by kernel_rfl)) (by kernel_rfl) (fun L h₁ tk F N => ?_) (by kernel_rfl) (by kernel_rfl) (by kernel_rfl) (by kernel_rfl))
  iterate 9 walk1
  refine Raise_classB (X := "ZeroDivisionError") hh excClass_ZeroDivisionError (by rw [isSubtype_type]; kernel_rfl) (nm_blt F G (by kernel_rfl) (by kernel_rfl) (by decide) (by kernel_rfl) (by boot_fast) (by decide) ⟨rfl, rfl⟩) fun h₂ e hx => ?_
  obtain ⟨ob, tp, he, hcls, hd⟩ := hx.there
  have hLb : base.get? L = none := by
    cases q : base.get? L with
    | none => rfl
    | some o => exact absurd (Nat.lt_of_lt_of_le (Heap.lt_size (hkb L o q)) F.above) (Nat.lt_irrefl _)
  have hkb₂ : base.StaysIn h₂ := fun b o q => hx.keeps b o (F.keep b o (hkb b o q))
  have hen : base.get? e = none := by
    cases q : base.get? e with
    | none => rfl
    | some o => have := F.keep e o (hkb e o q); rw [hx.new] at this; cases this
  have hfr' := Around.frames_deeper (env := envF w 101 L) hfr
  have hfun : h₂.FunFrames base (envF w 101 L :: outer) := by
    refine Heap.FunFrames.of_keeps (fun b o e _ => ⟨o, hx.keeps b o e, rfl⟩) ?_
    refine .cons ?_ ?_ F.ns hLb (hl.of_keeps fun b o e _ => ⟨o, F.keep b o e, rfl⟩)
    · unfold envF
      rw [envG_eq]
      exact fun q => nomatch q
    · unfold envF
      rw [envG_eq]
  unfold Lv
  refine wpAny_leaving_firstW (a0 := tp) (L := L) hfr' hfun (by unfold envF; rw [envG_eq]) he hkb₂ hen hd rfl rfl fun h₃ hL => ?_
  obtain ⟨k1, ⟨_, _, k2⟩, k3, k4⟩ := hL
  rw [hcls] at k3
  exact h e tp h₃ _ ⟨k1, hen, k2, k3⟩ fun b o q hn => k4 b o (hx.keeps b o (F.keep b o q)) hn
end Mine
end
section
theorem Mine.freshT18 : True := by
  w_top off
  trivial
namespace Mine
section
variable {M : Model} {A : Around} {R : GenEnd} {Y : Protocol} {n : Nat} {s₀ : Shared} {c : Code} {fs : List Frame} {s : Shared} {env : Env} {K : Flow → Sem Fin} {H : Value → Sem Fin} {gd : Bool → Bool} {lv : List Value → List Value}
/-- what is done with an exception that leaves a loop's code -/
def HN (env : Env) : Value → Sem Fin := fun e => (do noteFrame e env; theTreesLotGoes e : Sem Unit).wrap (fun _ => .raise e) .raise id id
/-- the frame of a code run from a statement -/
def ownFrame (env : Env) (K : Flow → Sem Fin) (H : Value → Sem Fin) (gd : Bool → Bool) (lv : List Value → List Value) (c : Code) (p : Pos) : Frame :=
  .ret (fun r => ((match r with | .ok f => (.pure f : Sem Flow) | .error e => .raise e).onRaise fun (x : Value) => do
        if (← field x 1) == Value.none then unsupported "frame.own-activation:exception-without-traceback"
        setFlight x env.frame).wrap K H gd lv) none (gd false) (lv []) c p []
theorem seg_If {test : Expr} {b₁ b₂ : List Stmt} {pos : Pos}
    (h : wpAny M (A.over c fs) (isTrue test env (eval test env)) (fun b s' => Seg M A R Y n s₀ c ((execs (if b = true then b₁ else b₂) env).wrap K H gd lv) fs s') (fun x s' => Seg M A R Y n s₀ c (H x) fs s') s) :
    Seg M A R Y n s₀ c ((exec (.If test b₁ b₂ pos) env).wrap K H gd lv) fs s := by
  rw [exec_If]
  refine seg_bind_wrap (wpAny_standAt ?_)
  refine seg_bind_wrap (wpAny_mono h (fun b s' hb => ?_) fun _ _ x => x)
  cases b <;> exact hb
theorem seg_For {target iter : Expr} {body : List Stmt} {pos : Pos} (hs : ∀ x, foldedSetIterable iter env x = pure x)
    (h : wpAny M (A.over c fs) (eval iter env) (fun x s₁ => wpAny M (A.over c fs) (pyIter x) (fun it s₂ => ∀ p, Seg M A R Y n s₀ (.forLoop target it body [] env) (M.den (.forLoop target it body [] env)) (ownFrame env K H gd lv c p :: fs) s₂)
      (fun x s' => Seg M A R Y n s₀ c (H x) fs s') s₁) (fun x s' => Seg M A R Y n s₀ c (H x) fs s') s) :
    Seg M A R Y n s₀ c ((exec (.For target iter body [] pos) env).wrap K H gd lv) fs s := by
  rw [exec_For]
  refine seg_bind_wrap (wpAny_standAt ?_)
  refine seg_bind_wrap (wpAny_mono h (fun x s₁ h₁ => ?_) fun _ _ x => x)
  refine seg_bind_wrap (wpAny_of_eq (hs x) ?_)
  refine seg_bind_wrap (wpAny_standAt ?_)
  refine seg_bind_wrap (wpAny_holding (wpAny_mono h₁ (fun it s₂ h₂ => ?_) fun _ _ x => x))
  exact seg_call h₂
end
section
variable {prog : Program} {w : World} {A : Around} {R : GenEnd} {Y : Protocol} {n : Nat} {s₀ : Shared} {fs : List Frame} {s : Shared} {env : Env} {target : Expr} {it : Value} {body : List Stmt}
/-- where a turn's end leads -/
def KT (target : Expr) (it : Value) (body : List Stmt) (env : Env) : Flow → Sem Fin := fun f => match f with
  | .next | .cont => .pure (.again (.forLoop target it body [] env))
  | .brk => .pure (.done .next)
  | .ret v => .pure (.done (.ret v))
theorem seg_forLoop
    (h : wpAny (model prog w) (A.over (.forLoop target it body [] env) fs) (pyNext it) (fun r s' => match r with
        | none => Seg (model prog w) A R Y n s₀ (.forLoop target it body [] env) (.pure (.again (.block [] env))) fs s'
        | some v => wpAny (model prog w) (A.over (.forLoop target it body [] env) fs) (letOwnedTupleGo target it v) (fun _ s₁ => wpAny (model prog w) (A.over (.forLoop target it body [] env) fs) (assign target env v) (fun _ s₂ =>
            Seg (model prog w) A R Y n s₀ (.forLoop target it body [] env) ((execs body env).wrap (KT target it body env) (HN env) id id) fs s₂)
            (fun x s' => Seg (model prog w) A R Y n s₀ (.forLoop target it body [] env) (HN env x) fs s') s₁) (fun x s' => Seg (model prog w) A R Y n s₀ (.forLoop target it body [] env) (HN env x) fs s') s')
      (fun x s' => Seg (model prog w) A R Y n s₀ (.forLoop target it body [] env) (HN env x) fs s') s) :
    Seg (model prog w) A R Y n s₀ (.forLoop target it body [] env) ((model prog w).den (.forLoop target it body [] env)) fs s := by
  show Seg _ A R Y n s₀ _ ((forTurn target it body [] env).onRaise (fun x => do noteFrame x env; theTreesLotGoes x)) fs s
  have hH : ∀ e, (do noteFrame e env; theTreesLotGoes e : Sem Unit).bind (fun _ => (.raise e : Sem Fin)) = HN env e := fun e => by
    unfold HN; rw [Sem.bind_eq_wrap]
  rw [Sem.onRaise_eq_wrap, Sem.wrap_congr _ _ _ (fun _ => rfl) hH]
  unfold forTurn
  refine seg_bind_wrap (wpAny_standAt ?_)
  refine seg_bind_wrap (wpAny_onRaise (wpAny_mono h (fun r s' h' => ?_) fun _ _ x => wpAny_standAt x))
  cases r with
  | none => exact h'
  | some v =>
    refine seg_bind_wrap (wpAny_mono h' (fun _ s₁ h₁ => ?_) fun _ _ x => x)
    refine seg_bind_wrap (wpAny_mono h₁ (fun _ s₂ h₂ => ?_) fun _ _ x => x)
    rw [Sem.bind_eq_wrap', Sem.wrap_wrap]
    refine cast (congrArg (fun t => Seg (model prog w) A R Y n s₀ _ t fs s₂) ?_) h₂
    exact Sem.wrap_congr _ _ _ (fun f => by cases f <;> rfl) (fun e => rfl)
/-- a loop that is at its end -/
theorem seg_loopEnd {K : Flow → Sem Fin} {H : Value → Sem Fin} {gd : Bool → Bool} {lv : List Value → List Value} {c : Code} {p : Pos} (h : Seg (model prog w) A R Y n s₀ c (K .next) fs s) :
    Seg (model prog w) A R Y n s₀ (.forLoop target it body [] env) (.pure (.again (.block [] env))) (ownFrame env K H gd lv c p :: fs) s := by
  refine seg_again (by rfl) ?_
  have e : (model prog w).den (.block [] env) = leafOf (.ok .next) := rfl
  rw [e]
  refine seg_leaf _ ?_
  exact h
end
end Mine
end
section
theorem Mine.freshT19 : True := by
  w_top off
  trivial
namespace Mine
variable {w : World} {mg mb : Str → Option Value}
abbrev genObj (g : Nat) (nm qn : Value) : Obj := { cls := .type "generator", data := .fields #[.int g 0, nm, qn] }
def stmtsOf (fd : FuncData) : List Stmt := match fd.body with | .stmts b => b | _ => []
noncomputable def fd45 (w : World) : { r : FuncData // fdAt w 45 = r } := ⟨⟨_, _, _, _, _, _, _, _, _, _, _, _, _, _, _⟩, rfl⟩
noncomputable def body45 (w : World) : { r : List Stmt // stmtsOf (fd45 w).1 = r } := ⟨[_, _, _, _], rfl⟩
noncomputable abbrev env45 (w : World) (C : Addr) : Env := envG (fd45 w).1.qualname (fd45 w).1.scope C 45 (fd45 w).1.code []
theorem isGen_of {h : Heap} {a : Addr} {g : Nat} {nm qn : Value} (e : h.get? a = some (genObj g nm qn)) : h.IsGen a g := ⟨_, nm, qn, e, rfl, rfl, rfl⟩
section
variable {prog : Program} {A : Around} {E : Value → Shared → Prop} {hp : Heap} {gs : Array GenState} {dr : Drawn} {tk : Nat} {os : OsState} {h₀ : Heap} {L : Addr} {m : Str → Option Value} {news : List (Addr × Obj)}
/-- the generator is made -/
theorem f_gen {x : Str} {t : Tok} {Q : Value → Shared → Prop} (F : Fr h₀ L hp m) (N : News h₀ L hp news) (G : Gl w mg mb h₀) (hroom : A.depth < recursionLimit)
    (h : ∀ C a h' tk' oC nm qn, Fr h₀ L h' m → News h₀ L h' ((a, genObj gs.size nm qn) :: (C, oC) :: news) → (∀ p ∈ news, p.1 < C) → L < C → C < a → (∀ h'' : Heap, h''.get? C = some oC → h''.Ns C (lk [(Str.ofString "addr", .str x t)])) →
      Q (.ref a) ⟨h', gs.push (.fresh (.func (body45 w).1 (env45 w C))), dr, tk', os⟩) : wpAny (model prog w) A (call (.ref 45) [.str x t]) Q E ⟨hp, gs, dr, tk, os⟩ := by
  have ho := (G.keeps F.keep).X 45 _ rfl
  refine wpAny_call (codeAny_call_generator (body := (body45 w).1) hroom ho rfl (by kernel_rfl) (by kernel_rfl) (by kernel_rfl) (codeRec_of (G.keeps F.keep).X (by kernel_rfl)) ?_)
  refine BindsTo.of_eq (binds := [("addr", .str x t)]) (by kernel_rfl) _ _ _ _ ?_
  have hnc : ((fd45 w).1.scope.names.all fun x => !(x.2 == .cell)) = true := by kernel_rfl
  refine wpAny_newFunctionEnv (fun y hy e => by have := List.all_eq_true.mp hnc y hy; rw [e] at this; cases this) (fun y hy => by rw [List.mem_singleton.mp hy]; kernel_rfl) (fun h' hns hsb => ?_) (by kernel_rfl)
  have hk : ∀ b o, hp.get? b = some o → h'.get? b = some o := fun b o e => hsb.extBut b o (Nat.ne_of_lt (Heap.lt_size e)) (Heap.get?_push_of_some _ e)
  have hns' : h'.Ns hp.objs.size (lk [(Str.ofString "addr", .str x t)]) := by
    rw [lk_eq]; exact hns
  obtain ⟨oC, es, ep, hC, hd, hr⟩ := hns'
  have hz : h'.objs.size = hp.objs.size + 1 := by rw [hsb.1, Heap.size_push]
  have hLC : L < hp.objs.size := F.ns.lt
  have hC0 : h₀.get? hp.objs.size = none := by
    cases q : h₀.get? hp.objs.size with
    | none => rfl
    | some o => exact absurd (Heap.lt_size (F.keep _ _ q)) (Nat.lt_irrefl _)
  have F' : Fr h₀ L h' m := fr_ext F (as := []) (fun _ hx => nomatch hx) fun b o _ e => hk b o e
  have N' : News h₀ L h' ((hp.objs.size, oC) :: news) := fun p hp' => by
    rcases List.mem_cons.mp hp' with rfl | hp'
    · exact ⟨hC, Nat.ne_of_gt hLC, hC0⟩
    · exact ⟨hk _ _ (N p hp').1, (N p hp').2⟩
  refine ⟨((G.keeps F.keep).nolimit).keeps hk, ?_⟩
  have hq := h hp.objs.size h'.objs.size _ (tk + 1 + 1 + 1) oC (.str "_iter_escaped_chars" (tk + 1)) (.str "_iter_escaped_chars" (tk + 1 + 1)) (F'.push _) (N'.push F' _) (fun p hp' => Heap.lt_size (N p hp').1) hLC (by rw [hz]; exact Nat.lt_succ_self _) fun h'' e => ⟨oC, es, ep, e, hd, hr⟩
  unfold env45 at hq
  rw [envG_eq] at hq
  exact hq
end
end Mine
end
section
theorem Mine.freshT20 : True := by
  w_top off
  trivial
namespace Mine
variable {w : World} {mg mb : Str → Option Value}
/-- what the generator hands out: i is the place of the next sign, the flag tells of a backslash before it -/
def escOf : Nat → Bool → List Nat → List (Nat × Str)
  | i, true, [] => [(i - 1, ⟨#[92]⟩)]
  | _, false, [] => []
  | i, true, c :: r => (i, ⟨#[92, c]⟩) :: escOf (i + 1) false r
  | i, false, c :: r => if c = 92 then escOf (i + 1) true r else (i, ⟨#[c]⟩) :: escOf (i + 1) false r
def forParts : List Stmt → Expr × List Stmt
  | .For t _ b _ _ :: _ => (t, b)
  | _ :: r => forParts r
  | [] => (.Constant .none 0 default, [])
noncomputable def for45 (w : World) : { r : Expr × List Stmt // forParts (body45 w).1 = r } := ⟨(.Tuple [.Name _ _, .Name _ _] _ _, [.If _ [.Expr (.Yield (some _) _) _, _] [.If _ [_] [.Expr (.Yield (some _) _) _] _] _]), rfl⟩
noncomputable def tail45 (w : World) : { r : List Stmt // (body45 w).1.drop 3 = r } := ⟨[.If _ [.Expr (.Yield (some _) _) _] [] _], rfl⟩
/-- the rest of a heap -/
def othersOf (h h₀ : Heap) (own : List Addr) : List (Addr × Obj) := (List.range h.objs.size).filterMap fun b => if b ∈ own then none else if (h₀.get? b).isSome then none else (h.get? b).map fun o => (b, o)
theorem mem_others {h h₀ : Heap} {own : List Addr} {p : Addr × Obj} : p ∈ othersOf h h₀ own ↔ p.1 ∉ own ∧ h₀.get? p.1 = none ∧ h.get? p.1 = some p.2 := by
  unfold othersOf
  rw [List.mem_filterMap]
  constructor
  · rintro ⟨b, _, e⟩
    by_cases h1 : b ∈ own
    · rw [if_pos h1] at e; cases e
    · rw [if_neg h1] at e
      by_cases h2 : (h₀.get? b).isSome = true
      · rw [if_pos h2] at e; cases e
      · rw [if_neg h2] at e
        obtain ⟨o, ho, rfl⟩ := Option.map_eq_some_iff.mp e
        exact ⟨h1, by simpa using h2, ho⟩
  · rintro ⟨h1, h2, h3⟩
    refine ⟨p.1, List.mem_range.mpr (Heap.lt_size h3), ?_⟩
    rw [if_neg h1, if_neg (by rw [h2]; exact Bool.false_ne_true), h3]
    rfl
abbrev enumObj (I : Addr) (i : Nat) (old : Value) : Obj := { cls := .type "enumerate", dict := none, data := .fields #[.none, .bool false, .ref I, rawInt (i : Int), .none, old], slots := #[] }
/-- a run of the generator, resumed at s₀ and now at s -/
structure EscSt (h₀ : Heap) (C E I : Addr) (x : Str) (t : Tok) (i : Nat) (e : Bool) (l : List (Str × Value)) (s₀ s : Shared) : Prop where
  gens : s.gens = s₀.gens
  drawn : s.drawn = s₀.drawn
  os : s.os = s₀.os
  F : Fr h₀ C s.heap (lk l)
  N : ∃ old oI rest, News h₀ C s.heap ((E, enumObj I i old) :: (I, oI) :: rest) ∧ oI.cls = .type "str_ascii_iterator" ∧ oI.data = .fields #[.str x t, .int (i : Int) 0] ∧
    (∀ b o, s₀.heap.get? b = some o → b ∉ [C, E, I] → h₀.get? b = some o ∨ (b, o) ∈ rest) ∧ (∀ p ∈ rest, p.1 ≠ E ∧ p.1 ≠ I)
  EI : E ≠ I
  esc : lk l (Str.ofString "escape") = some (.bool e)
  pos : ∃ tp, lk l (Str.ofString "pos") = some (.int ((i - 1 : Nat) : Int) tp)
theorem EscSt.ext {h₀ : Heap} {C E I : Addr} {x : Str} {t : Tok} {i : Nat} {e : Bool} {l : List (Str × Value)} {s₀ s : Shared} (z : EscSt h₀ C E I x t i e l s₀ s) : Ext [C, E, I] s₀.heap s.heap := by
  obtain ⟨old, oI, rest, N, _, _, cov, _⟩ := z.N
  intro b o hb q
  rcases cov b o q hb with q | q
  · exact z.F.keep _ _ q
  · exact (N (b, o) (.tail _ (.tail _ q))).1
/-- a heap that keeps what the generator owns -/
theorem EscSt.again {h₀ : Heap} {C E I : Addr} {x : Str} {t : Tok} {i : Nat} {e : Bool} {l : List (Str × Value)} {s₀ s : Shared} (z : EscSt h₀ C E I x t i e l s₀ s) : ∃ own : List (Addr × Obj), (∀ p ∈ own, p.1 ∈ [C, E, I] ∧ s.heap.get? p.1 = some p.2) ∧ (∀ b ∈ [C, E, I], ∃ o, s.heap.get? b = some o) ∧
    ∀ s'' : Shared, (∀ b o, h₀.get? b = some o → s''.heap.get? b = some o) → (∀ p ∈ own, s''.heap.get? p.1 = some p.2) → EscSt h₀ C E I x t i e l s'' s'' := by
  obtain ⟨old, oI, rest, N, hc, hd, cov, ap⟩ := z.N
  obtain ⟨oC, es, ep, hC, hCd, hr⟩ := z.F.ns
  refine ⟨[(C, oC), (E, enumObj I i old), (I, oI)], fun p hp => ?_, fun b hb => ?_, fun s'' hk ho => ?_⟩
  · rcases List.mem_cons.mp hp with rfl | hp
    · exact ⟨.head _, hC⟩
    · rcases List.mem_cons.mp hp with rfl | hp
      · exact ⟨.tail _ (.head _), (N _ (.head _)).1⟩
      · rw [List.mem_singleton.mp hp]
        exact ⟨.tail _ (.tail _ (.head _)), (N _ (.tail _ (.head _))).1⟩
  · rcases List.mem_cons.mp hb with rfl | hb
    · exact ⟨_, hC⟩
    · rcases List.mem_cons.mp hb with rfl | hb
      · exact ⟨_, (N _ (.head _)).1⟩
      · rw [List.mem_singleton.mp hb]
        exact ⟨_, (N _ (.tail _ (.head _))).1⟩
  have h1 := ho (C, oC) (.head _)
  have h2 := ho (E, enumObj I i old) (.tail _ (.head _))
  have h3 := ho (I, oI) (.tail _ (.tail _ (.head _)))
  refine ⟨rfl, rfl, rfl, ⟨⟨oC, es, ep, h1, hCd, hr⟩, hk, z.F.above⟩, ⟨old, oI, othersOf s''.heap h₀ [C, E, I], fun p hp => ?_, hc, hd, fun b o q hb => ?_, fun p hp => ?_⟩, z.EI, z.esc, z.pos⟩
  · rcases List.mem_cons.mp hp with rfl | hp
    · exact ⟨h2, (N _ (.head _)).2⟩
    · rcases List.mem_cons.mp hp with rfl | hp
      · exact ⟨h3, (N _ (.tail _ (.head _))).2⟩
      · obtain ⟨a1, a2, a3⟩ := mem_others.mp hp
        exact ⟨a3, fun e => a1 (by rw [e]; exact .head _), a2⟩
  · cases h : h₀.get? b with
    | none => exact .inr (mem_others.mpr ⟨hb, h, q⟩)
    | some o' =>
      have := hk _ _ h
      rw [q] at this
      exact .inl this.symm
  · obtain ⟨a1, _, _⟩ := mem_others.mp hp
    exact ⟨fun e => a1 (by rw [e]; exact .tail _ (.head _)), fun e => a1 (by rw [e]; exact .tail _ (.tail _ (.head _)))⟩
def ExtW (W : Addr → Prop) (h h' : Heap) : Prop := ∀ b o, ¬ W b → h.get? b = some o → h'.get? b = some o
theorem ExtW.of {W : Addr → Prop} {C E I : Addr} {h h' : Heap} (hC : W C) (hE : W E) (hI : W I) (k : Ext [C, E, I] h h') : ExtW W h h' := fun b o hb q => k b o (fun hm => by
  rcases List.mem_cons.mp hm with rfl | hm
  · exact hb hC
  · rcases List.mem_cons.mp hm with rfl | hm
    · exact hb hE
    · exact hb (List.mem_singleton.mp hm ▸ hI)) q
theorem w_of {W : Addr → Prop} {C E I b : Addr} (hC : W C) (hE : W E) (hI : W I) (hm : b ∈ [C, E, I]) : W b := by
  rcases List.mem_cons.mp hm with rfl | hm
  · exact hC
  · rcases List.mem_cons.mp hm with rfl | hm
    · exact hE
    · exact List.mem_singleton.mp hm ▸ hI
def escY (h₀ : Heap) (W : Addr → Prop) (ev : List (Nat × Str)) : Protocol := fun m s₀ v s kap =>
  ∃ (h' : Heap) (tk' : Nat) (T : Addr) (i : Nat) (x : Str) (t u : Tok) (own : List (Addr × Obj)), s = { s₀ with heap := h', toks := tk' } ∧ ExtW W s₀.heap h' ∧ ev[ev.length - 1 - m]? = some (i, x) ∧ v = .ref T ∧ h'.get? T = some (tupOf #[.int (i : Nat) t, .str x u]) ∧
    (∀ p ∈ own, W p.1 ∧ h'.get? p.1 = some p.2) ∧ ∀ s'' : Shared, (∀ b o, h₀.get? b = some o → s''.heap.get? b = some o) → (∀ p ∈ own, s''.heap.get? p.1 = some p.2) → kap (.send .none) s''
def escP (W : Addr → Prop) (n : Nat) (s₀ s₁ : Shared) : Prop := n = 0 ∧ ∃ h' tk', s₁ = { s₀ with heap := h', toks := tk' } ∧ ExtW W s₀.heap h'
abbrev escR (W : Addr → Prop) : GenEnd := fun n s₀ r s₁ => r = .ok (.ret .none) ∧ escP W n s₀ s₁
theorem old_none {h₀ h : Heap} {wr : List Addr} {T : Addr} (k : Ext wr h₀ h) (hT : h.get? T = none) (hw : T ∉ wr) : h₀.get? T = none := by
  cases q : h₀.get? T with
  | none => rfl
  | some o => have := k T o hw q; rw [hT] at this; cases this
/-- a tuple is handed out -/
theorem EscSt.yields {W : Addr → Prop} {h₀ : Heap} {C E I : Addr} {x : Str} {t : Tok} {i : Nat} {e : Bool} {l : List (Str × Value)} {s₀ : Shared} {hp : Heap} {gs : Array GenState} {dr : Drawn} {tk : Nat} {os : OsState} (z : EscSt h₀ C E I x t i e l s₀ ⟨hp, gs, dr, tk, os⟩) (hC : W C) (hE : W E) (hI : W I)
    {T : Addr} {k : Nat} {y : Str} {t' u : Tok} {ev : List (Nat × Str)} {m : Nat} {kap : Resume → Shared → Prop} (hT : hp.get? T = some (tupOf #[.int (k : Nat) t', .str y u]))
    (hev : ev[ev.length - 1 - m]? = some (k, y)) (hkap : ∀ s'', EscSt h₀ C E I x t i e l s'' s'' → kap (.send .none) s'') : escY h₀ W ev m s₀ (.ref T) ⟨hp, gs, dr, tk, os⟩ kap := by
  obtain ⟨own, ho, hw, hg⟩ := z.again
  have e1 := z.gens; have e2 := z.drawn; have e3 := z.os
  dsimp only at e1 e2 e3 ho hw
  subst e1 e2 e3
  exact ⟨hp, tk, T, k, y, t', u, own, rfl, .of hC hE hI z.ext, hev, rfl, hT, (fun p hp => ⟨w_of hC hE hI (ho p hp).1, (ho p hp).2⟩), fun s'' a b => hkap _ (hg s'' a b)⟩
/-- a new object that stands above a ledger -/
theorem above_new {h₀ : Heap} {C E I T : Addr} {oE oI oT : Obj} {h : Heap} {rest : List (Addr × Obj)} {s₀ : Shared} (N : News h₀ C h ((T, oT) :: (E, oE) :: (I, oI) :: rest)) (cov : ∀ b o, s₀.heap.get? b = some o → b ∉ [C, E, I] → h₀.get? b = some o ∨ (b, o) ∈ rest)
    (hl : ∀ p ∈ (E, oE) :: (I, oI) :: rest, p.1 < T) : T ∉ [C, E, I] ∧ s₀.heap.get? T = none := by
  have hw : T ∉ [C, E, I] := fun hm => by
    rcases List.mem_cons.mp hm with hm | hm
    · exact (N _ (.head _)).2.1 hm
    · rcases List.mem_cons.mp hm with hm | hm
      · exact Nat.lt_irrefl T (by have := hl (E, oE) (.head _); rw [← hm] at this; exact this)
      · have hm := List.mem_singleton.mp hm
        exact Nat.lt_irrefl T (by have := hl (I, oI) (.tail _ (.head _)); rw [← hm] at this; exact this)
  refine ⟨hw, ?_⟩
  cases q : s₀.heap.get? T with
  | none => rfl
  | some o =>
    rcases cov T o q hw with r | r
    · have := (N _ (.head _)).2.2; rw [r] at this; cases this
    · exact absurd (hl _ (.tail _ (.tail _ r))) (Nat.lt_irrefl T)
end Mine
end
section
theorem Mine.freshT21 : True := by
  w_top off
  trivial
namespace Mine
variable {w : World} {mg mb : Str → Option Value}
theorem bs_eq : (Str.ofString "\\") = (⟨#[92]⟩ : Str) := by decide
theorem bs_beq {c : Nat} : ((⟨#[c]⟩ : Str) == Str.ofString "\\") = decide (c = 92) := by
  rw [bs_eq]
  by_cases h : c = 92
  · subst h; decide
  · rw [decide_eq_false h]
    refine beq_eq_false_iff_ne.mpr fun e => h ?_
    have := congrArg (fun s : Str => s.cps.toList) e
    simpa using this
theorem not_wr {C E I T : Addr} (h : T ∉ [C, E, I]) : T ≠ E ∧ T ≠ I := by
  constructor
  · rintro rfl; exact h (.tail _ (.head _))
  · rintro rfl; exact h (.tail _ (.tail _ (.head _)))
def KFn : Flow → Sem Fin := fun f => .pure (.done (.ret (match f with | .ret v => v | _ => .none)))
def HFn (env : Env) : Value → Sem Fin := fun e => (leaving env e).wrap (fun _ => .raise e) .raise id id
/-- what follows the loop -/
noncomputable def K45 (w : World) (env : Env) : Flow → Sem Fin := fun f => match f with | .next => (execs (tail45 w).1 env).wrap KFn (HFn env) id id | f => KFn f
theorem over_own {A : Around} {env : Env} {K : Flow → Sem Fin} {H : Value → Sem Fin} {gd : Bool → Bool} {lv : List Value → List Value} {c c' : Code} {p : Pos} : (A.over c [ownFrame env K H gd lv c' p]).handled = A.handled := rfl
theorem over_nil {A : Around} {c : Code} : (A.over c []).handled = A.handled := rfl
section
variable {prog : Program} {A : Around} {h₀ : Heap} {C E I : Addr} {x : Str} {t : Tok} {ev : List (Nat × Str)} {p : Pos} {W : Addr → Prop}
/-- the loop, from a sign on -/
theorem esc_loop (hh : A.handled = none) (hWC : W C) (hWE : W E) (hWI : W I) : ∀ (k i : Nat) (e : Bool) (l : List (Str × Value)) (s₀ s : Shared) (pre : List (Nat × Str)), x.cps.size - i = k → i ≤ x.cps.size → EscSt h₀ C E I x t i e l s₀ s → ev = pre ++ escOf i e (x.cps.toList.drop i) →
    Seg (model prog w) A (escR W) (escY h₀ W ev) (escOf i e (x.cps.toList.drop i)).length s₀ (.forLoop (for45 w).1.1 (.ref E) (for45 w).1.2 [] (env45 w C)) ((model prog w).den (.forLoop (for45 w).1.1 (.ref E) (for45 w).1.2 [] (env45 w C)))
      [ownFrame (env45 w C) (K45 w (env45 w C)) (HFn (env45 w C)) id id (.func (body45 w).1 (env45 w C)) p] s := by
  intro k
  induction k with
  | zero =>
    intro i e l s₀ s pre hk hi z hev
    have hsz : i = x.cps.size := by omega
    have hdrop : x.cps.toList.drop i = [] := List.drop_of_length_le (by simp [hsz])
    rw [hdrop] at hev ⊢
    obtain ⟨hp, gs, dr, tk, os⟩ := s
    obtain ⟨old, oI, rest, N, hc, hd, cov, ap⟩ := z.N
    have F := z.F
    have e1 := z.gens; have e2 := z.drawn; have e3 := z.os
    have hex := z.ext
    obtain ⟨tp, hpos⟩ := z.pos
    have hesc := z.esc
    dsimp only at N F e1 e2 e3 hex
    refine seg_forLoop ?_
    refine wpAny_pyNext_enum_endD (Draws.strAscii (by exact hh) I x t) (N (E, enumObj I i old) (.head _)).1 ⟨oI, (N (I, oI) (.tail _ (.head _))).1, hc, by rw [hd, hsz]⟩ fun h₁ hk₁ => ?_
    refine seg_loopEnd ?_
    have k₁ : Ext [I] hp h₁ := fun b o hb q => hk₁ b o (fun r => hb (List.mem_singleton.mpr r)) q
    have F₁ : Fr h₀ C h₁ (lk l) := fr_ext F (fun b hb => by rw [List.mem_singleton.mp hb]; exact (N (I, oI) (.tail _ (.head _))).2) k₁
    have N₁ : News h₀ C h₁ (othersOf h₁ h₀ [C]) := fun p hm => by
      obtain ⟨a1, a2, a3⟩ := mem_others.mp hm
      exact ⟨a3, fun r => a1 (by rw [r]; exact .head _), a2⟩
    have hex₁ : ∀ h', Fr h₀ C h' (lk l) → News h₀ C h' (othersOf h₁ h₀ [C]) → Ext [C, E, I] s₀.heap h' := fun h' F' N' b o hb q => by
      have q₁ := k₁ b o (fun r => hb (by rw [List.mem_singleton.mp r]; exact .tail _ (.tail _ (.head _)))) (hex b o hb q)
      cases r : h₀.get? b with
      | some o' =>
        have := F₁.keep _ _ r
        rw [q₁] at this
        rw [Option.some.inj this]
        exact F'.keep _ _ r
      | none => exact (N' (b, o) (mem_others.mpr ⟨fun hm => hb (by have hm' : b = C := List.mem_singleton.mp hm; rw [hm']; exact .head _), r, q₁⟩)).1
    refine seg_execs_cons ?_
    refine seg_If ?_
    cases e with
    | true =>
      repeat walk1
      rw [if_pos rfl]
      refine seg_execs_cons ?_
      refine seg_Expr_Yield rfl rfl rfl ?_ (by unfold env45; rw [envG_eq]; rfl) (by unfold env45; rw [envG_eq]; rfl)
      repeat walk1
      rename_i T h_T F_T N_T l_T kap hkap
      subst e1 e2 e3
      refine ⟨h_T, _, T, i - 1, ⟨#[92]⟩, _, _, [], rfl, .of hWC hWE hWI (hex₁ _ F_T (fun p hm => N_T p (.tail _ hm))), ?_, rfl, (N_T _ (.head _)).1, (fun _ hm => nomatch hm), fun s'' _ _ => hkap .none s'' ?_⟩
      · rw [hev]
        simp only [escOf, List.length_append, List.length_cons, List.length_nil]
        rw [show pre.length + (0 + 1) - 1 - 0 = pre.length by omega, List.getElem?_append_right (Nat.le_refl _), Nat.sub_self]
        rfl
      · exact seg_end (.ok (.ret .none)) ⟨rfl, rfl, s''.heap, s''.toks, rfl, fun b o _ q => q⟩
    | false =>
      repeat walk1
      rw [if_neg Bool.false_ne_true]
      subst e1 e2 e3
      exact seg_end (.ok (.ret .none)) ⟨rfl, rfl, _, _, rfl, .of hWC hWE hWI (hex₁ _ F₁ N₁)⟩
  | succ k ih =>
    intro i e l s₀ s pre hk hi z hev
    have hlt : i < x.cps.size := by omega
    obtain ⟨hp, gs, dr, tk, os⟩ := s
    obtain ⟨old, oI, rest, N, hc, hd, cov, ap⟩ := z.N
    have F := z.F
    have e1 := z.gens; have e2 := z.drawn; have e3 := z.os
    dsimp only at N F e1 e2 e3
    have hEI := z.EI
    refine seg_forLoop ?_
    refine wpAny_pyNext_enum_itemD (Draws.strAscii (by exact hh) I x t) (N (E, enumObj I i old) (.head _)).1 ⟨oI, (N (I, oI) (.tail _ (.head _))).1, hc, hd⟩ hlt hEI (fun q => hEI (List.mem_singleton.mp q)) fun v h₁ tk₁ hv ho hst hT hz hk₁ => ?_
    obtain ⟨c, u, hx, rfl⟩ := hv
    refine wpAny_letOwnedTupleGo_enum ho fun h₂ he₂ hs₂ => ?_
    obtain ⟨oI₁, hI₁, hc₁, hd₁⟩ := hst
    have k₂ : Ext [E, I] hp h₂ := fun b o hb q => (hs₂.2 b (fun r => hb (by rw [r]; exact .head _))).trans (hk₁ b o (fun r => hb (by rw [r]; exact .head _)) (fun r => hb (by rw [r]; exact .tail _ (.head _))) q)
    have hI₂ : h₂.get? I = some oI₁ := (hs₂.2 I hEI.symm).trans hI₁
    have F₂ : Fr h₀ C h₂ (lk l) := fr_ext F (fun b hb => by
      rcases List.mem_cons.mp hb with rfl | hb
      · exact (N (b, _) (.head _)).2
      · rw [List.mem_singleton.mp hb]; exact (N (I, oI) (.tail _ (.head _))).2) k₂
    have N₂ : News h₀ C h₂ ((E, enumObj I (i + 1) (.str ⟨#[c]⟩ u)) :: (I, oI₁) :: rest) := fun p hp' => by
      rcases List.mem_cons.mp hp' with rfl | hp'
      · exact ⟨he₂, (N (E, enumObj I i old) (.head _)).2⟩
      · rcases List.mem_cons.mp hp' with rfl | hp'
        · exact ⟨hI₂, (N (I, oI) (.tail _ (.head _))).2⟩
        · refine ⟨k₂ _ _ (fun q => ?_) (N p (.tail _ (.tail _ hp'))).1, (N p (.tail _ (.tail _ hp'))).2⟩
          rcases List.mem_cons.mp q with q | q
          · exact (ap p hp').1 q
          · exact (ap p hp').2 (List.mem_singleton.mp q)
    have hT₂ : h₂.get? hp.objs.size = some (tupOf #[.int (i : Nat) tk₁, .str ⟨#[c]⟩ u]) := (hs₂.2 _ (Nat.ne_of_gt (Heap.lt_size (N (E, enumObj I i old) (.head _)).1))).trans hT
    clear hk₁ ho hT hs₂ he₂
    refine f_unpack2 F₂ N₂ ⟨_, hT₂, rfl, _, rfl⟩ hh fun h₃ F₃ N₃ => ?_
    repeat walk1
    rename_i h_p tk_p F_p N_p h_c tk_c F_c N_c
    have hdrop : x.cps.toList.drop i = c :: x.cps.toList.drop (i + 1) := by
      have hlt' : i < x.cps.toList.length := by simpa using hlt
      rw [List.drop_eq_getElem_cons hlt']
      congr 1
      have := Array.getElem?_eq_getElem hlt
      rw [hx] at this
      simpa using (Option.some.inj this).symm
    rw [hdrop] at hev ⊢
    have lch : lk (("ch", Value.str ⟨#[c]⟩ u) :: ("pos", Value.int (i : Nat) tk₁) :: l) (Str.ofString "escape") = some (.bool e) := lk_miss (by kernel_rfl) (lk_miss (by kernel_rfl) z.esc)
    have mkz : ∀ (e' : Bool) (l' : List (Str × Value)) (h' : Heap) (tk' : Nat) (extra : List (Addr × Obj)), Fr h₀ C h' (lk l') → News h₀ C h' (extra ++ ((E, enumObj I (i + 1) (.str ⟨#[c]⟩ u)) :: (I, oI₁) :: rest)) → (∀ p ∈ extra, p.1 ≠ E ∧ p.1 ≠ I) →
        lk l' (Str.ofString "escape") = some (.bool e') → (∃ tp, lk l' (Str.ofString "pos") = some (.int ((i : Nat) : Int) tp)) → EscSt h₀ C E I x t (i + 1) e' l' s₀ ⟨h', gs, dr, tk', os⟩ := fun e' l' h' tk' extra F' N' ne he hp' =>
      ⟨e1, e2, e3, F', ⟨_, oI₁, extra ++ rest, fun p hm => N' p (by
        rcases List.mem_cons.mp hm with rfl | hm
        · exact List.mem_append_right _ (.head _)
        · rcases List.mem_cons.mp hm with rfl | hm
          · exact List.mem_append_right _ (.tail _ (.head _))
          · rcases List.mem_append.mp hm with hm | hm
            · exact List.mem_append_left _ hm
            · exact List.mem_append_right _ (.tail _ (.tail _ hm))), hc₁, hd₁, fun b o q hb => (cov b o q hb).imp id (fun r => List.mem_append_right _ r), fun p hm => by
        rcases List.mem_append.mp hm with hm | hm
        · exact ne p hm
        · exact ap p hm⟩, hEI, he, hp'⟩
    have lpos : ∃ tp, lk (("ch", Value.str ⟨#[c]⟩ u) :: ("pos", Value.int (i : Nat) tk₁) :: l) (Str.ofString "pos") = some (.int ((i : Nat) : Int) tp) := ⟨_, lk_miss (by kernel_rfl) lk_hit⟩
    refine seg_execs_cons ?_
    refine seg_If ?_
    cases e with
    | true =>
      repeat walk1
      rw [if_pos rfl]
      refine seg_execs_cons ?_
      refine seg_Expr_Yield rfl rfl rfl ?_ (by unfold env45; rw [envG_eq]; rfl) (by unfold env45; rw [envG_eq]; rfl)
      repeat walk1
      rename_i T h_T F_T N_T l_T kap hkap
      obtain ⟨hTw, hT0⟩ := above_new N_T cov l_T
      refine (mkz true _ h_T _ [(T, _)] F_T N_T (fun p hm => by rw [List.mem_singleton.mp hm]; exact not_wr hTw) lch lpos).yields hWC hWE hWI (k := i) (y := ⟨#[92, c]⟩) (N_T _ (.head _)).1 ?_ fun s'' z'' => hkap .none s'' ?_
      · rw [hev]
        simp only [escOf, List.length_append, List.length_cons]
        rw [show pre.length + ((escOf (i + 1) false (x.cps.toList.drop (i + 1))).length + 1) - 1 - (escOf (i + 1) false (x.cps.toList.drop (i + 1))).length = pre.length by omega, List.getElem?_append_right (Nat.le_refl _), Nat.sub_self]
        rfl
      · obtain ⟨hp'', gs'', dr'', tk'', os''⟩ := s''
        have F'' := z''.F
        obtain ⟨old'', oI'', rest'', N'', hc'', hd'', cov'', ap''⟩ := z''.N
        refine seg_execs_cons ?_
        refine seg_wrap ?_
        repeat walk1
        rename_i h_e tk_e F_e N_e
        refine seg_again (by rfl) ?_
        refine ih (i + 1) false _ _ _ (pre ++ [(i, ⟨#[92, c]⟩)]) (by omega) hlt ⟨rfl, rfl, rfl, F_e, ⟨_, _, rest'', N_e, hc'', hd'', cov'', ap''⟩, hEI, lk_hit, ?_⟩ (by rw [hev, List.append_assoc]; rfl)
        exact ⟨z''.pos.choose, lk_miss (by kernel_rfl) z''.pos.choose_spec⟩
    | false =>
      repeat walk1
      rw [if_neg Bool.false_ne_true]
      refine seg_execs_cons ?_
      refine seg_If ?_
      by_cases h92 : c = 92
      · repeat walk1
        rw [bs_beq, if_pos (by simp [h92])]
        have hes : escOf i false (c :: x.cps.toList.drop (i + 1)) = escOf (i + 1) true (x.cps.toList.drop (i + 1)) := by simp [escOf, h92]
        rw [hes] at hev ⊢
        refine seg_execs_cons ?_
        refine seg_wrap ?_
        repeat walk1
        rename_i h_e tk_e F_e N_e
        refine seg_again (by rfl) ?_
        exact ih (i + 1) true _ _ _ pre (by omega) hlt (mkz true _ h_e _ [] F_e N_e (fun _ hm => nomatch hm) lk_hit ⟨_, lk_miss (by kernel_rfl) lpos.choose_spec⟩) hev
      · repeat walk1
        rw [bs_beq, if_neg (by simp [h92])]
        have hes : escOf i false (c :: x.cps.toList.drop (i + 1)) = (i, ⟨#[c]⟩) :: escOf (i + 1) false (x.cps.toList.drop (i + 1)) := by simp [escOf, h92]
        rw [hes] at hev ⊢
        refine seg_execs_cons ?_
        refine seg_Expr_Yield rfl rfl rfl ?_ (by unfold env45; rw [envG_eq]; rfl) (by unfold env45; rw [envG_eq]; rfl)
        repeat walk1
        rename_i T h_T F_T N_T l_T kap hkap
        obtain ⟨hTw, hT0⟩ := above_new N_T cov l_T
        refine (mkz false _ h_T _ [(T, _)] F_T N_T (fun p hm => by rw [List.mem_singleton.mp hm]; exact not_wr hTw) lch lpos).yields hWC hWE hWI (k := i) (y := ⟨#[c]⟩) (N_T _ (.head _)).1 ?_ fun s'' z'' => hkap .none s'' ?_
        · rw [hev]
          simp only [List.length_append, List.length_cons]
          rw [show pre.length + ((escOf (i + 1) false (x.cps.toList.drop (i + 1))).length + 1) - 1 - (escOf (i + 1) false (x.cps.toList.drop (i + 1))).length = pre.length by omega, List.getElem?_append_right (Nat.le_refl _), Nat.sub_self]
          rfl
        · refine seg_again (by rfl) ?_
          exact ih (i + 1) false _ _ _ (pre ++ [(i, ⟨#[c]⟩)]) (by omega) hlt z'' (by rw [hev, List.append_assoc]; rfl)
end
end Mine
end
section
local macro_rules | `(tactic| walk_at "zz") => `(tactic| fail)
theorem Mine.freshT22 : True := by
  w_top off
  trivial
namespace Mine
variable {w : World} {mg mb : Str → Option Value}
section
variable {prog : Program} {A : Around} {Er : Value → Shared → Prop} {hp : Heap} {gs : Array GenState} {dr : Drawn} {tk : Nat} {os : OsState} {h₀ : Heap} {L : Addr} {m : Str → Option Value} {news : List (Addr × Obj)}
theorem f_enum {x : Str} {t : Tok} {Q : Value → Shared → Prop} (F : Fr h₀ L hp m) (N : News h₀ L hp news) (ha : x.cps.all (· < 128) = true)
    (h : ∀ E I h' oI, Fr h₀ L h' m → News h₀ L h' ((E, enumObj I 0 .none) :: (I, oI) :: news) → oI.cls = .type "str_ascii_iterator" → oI.data = .fields #[.str x t, .int 0 0] → E ≠ I → (∀ p ∈ news, p.1 ≠ E ∧ p.1 ≠ I) → hp.get? E = none → hp.get? I = none → Q (.ref E) ⟨h', gs, dr, tk, os⟩) :
    wpAny (model prog w) A (call (.type "enumerate") [.str x t]) Q Er ⟨hp, gs, dr, tk, os⟩ := by
  refine call_enumerate_str fun h' he hit hz hk => ?_
  have hty : strIterType x = "str_ascii_iterator" := by unfold strIterType; rw [if_pos ha]
  rw [hty] at hit
  obtain ⟨oI, hI, hc, hd⟩ := hit
  have hlt : ∀ p ∈ news, p.1 < hp.objs.size := fun p hp' => Heap.lt_size (N p hp').1
  have n0 : ∀ b, hp.objs.size ≤ b → h₀.get? b = none := fun b hb => by
    cases q : h₀.get? b with
    | none => rfl
    | some o => exact absurd (Heap.lt_size (F.keep _ _ q)) (Nat.not_lt.mpr hb)
  have hL : L < hp.objs.size := F.ns.lt
  refine h (hp.objs.size + 1) hp.objs.size h' oI (fr_ext F (as := []) (fun _ hx => nomatch hx) fun b o _ q => hk b o q) (fun p hp' => ?_) hc hd (Nat.succ_ne_self _) (fun p hp' => ⟨Nat.ne_of_lt (Nat.lt_succ_of_lt (hlt p hp')), Nat.ne_of_lt (hlt p hp')⟩) (Heap.get?_none_of_le (Nat.le_succ _)) (Heap.get?_none_of_le (Nat.le_refl _))
  rcases List.mem_cons.mp hp' with rfl | hp'
  · exact ⟨he, Nat.ne_of_gt (Nat.lt_succ_of_lt hL), n0 _ (Nat.le_succ _)⟩
  · rcases List.mem_cons.mp hp' with rfl | hp'
    · exact ⟨hI, Nat.ne_of_gt hL, n0 _ (Nat.le_refl _)⟩
    · exact ⟨hk _ _ (N p hp').1, (N p hp').2⟩
theorem f_iter_enum {E I : Addr} {i : Nat} {old : Value} {Q : Value → Shared → Prop} (N : News h₀ L hp ((E, enumObj I i old) :: news)) (h : Q (.ref E) ⟨hp, gs, dr, tk, os⟩) : wpAny (model prog w) A (pyIter (.ref E)) Q Er ⟨hp, gs, dr, tk, os⟩ :=
  wpAny_pyIter_enum (N _ (.head _)).1 h
end
/-- the generator's first run -/
theorem esc_fresh {prog : Program} {A : Around} {h₀ : Heap} {C : Addr} {x : Str} {t : Tok} {W : Addr → Prop} {oC : Obj} (hh : A.handled = none) (G : Gl w mg mb h₀) {s : Shared} (hk : ∀ b o, h₀.get? b = some o → s.heap.get? b = some o) (hC : s.heap.get? C = some oC)
    (hns : ∀ h'' : Heap, h''.get? C = some oC → h''.Ns C (lk [(Str.ofString "addr", .str x t)])) (hab : h₀.objs.size ≤ C) (hWC : W C) (hW : ∀ b, s.heap.get? b = none → W b) (ha : x.cps.all (· < 128) = true) :
    Seg (model prog w) A (escR W) (escY h₀ W (escOf 0 false x.cps.toList)) (escOf 0 false x.cps.toList).length s (.func (body45 w).1 (env45 w C)) ((model prog w).den (.func (body45 w).1 (env45 w C))) [] s := by
  obtain ⟨hp, gs, dr, tk, os⟩ := s
  have F : Fr h₀ C hp (lk [(Str.ofString "addr", .str x t)]) := ⟨hns _ hC, hk, hab⟩
  have N : News h₀ C hp (othersOf hp h₀ [C]) := fun p hm => by
    obtain ⟨a1, a2, a3⟩ := mem_others.mp hm
    exact ⟨a3, fun r => a1 (by rw [r]; exact .head _), a2⟩
  refine seg_func ?_
  refine seg_execs_cons (seg_wrap ?_)
  repeat walk1
  refine seg_execs_cons (seg_wrap ?_)
  repeat walk1
  refine seg_execs_cons (seg_For (fun _ => rfl) ?_)
  repeat walk1
  rename_i h₁ tk₁ F₁ N₁ h₂ tk₂ F₂ N₂
  refine f_enum F₂ N₂ ha fun E I h₃ oI F₃ N₃ hcI hdI hEI hap hE0 hI0 => ?_
  have back : ∀ b, h₂.get? b = none → hp.get? b = none := fun b hb => by
    cases q : hp.get? b with
    | none => rfl
    | some o =>
      by_cases hbC : b = C
      · obtain ⟨o', _, _, e', _⟩ := F₂.ns
        rw [hbC, e'] at hb; cases hb
      · cases r : h₀.get? b with
        | some o' => have := F₂.keep _ _ r; rw [hb] at this; cases this
        | none => have := (N₂ (b, o) (mem_others.mpr ⟨fun hm => hbC (List.mem_singleton.mp hm), r, q⟩)).1; rw [hb] at this; cases this
  refine f_iter_enum N₃ fun p => ?_
  refine esc_loop (p := p) hh hWC (hW _ (back _ hE0)) (hW _ (back _ hI0)) x.cps.size 0 false _ _ _ [] (by omega) (Nat.zero_le _) ⟨rfl, rfl, rfl, F₃, ⟨.none, oI, othersOf hp h₀ [C], N₃, hcI, hdI, fun b o q hb => ?_, hap⟩, hEI, lk_hit, ⟨_, lk_miss (by kernel_rfl) lk_hit⟩⟩ (by simp)
  cases r : h₀.get? b with
  | some o' =>
    have := hk _ _ r
    rw [q] at this
    exact .inl this.symm
  | none => exact .inr (mem_others.mpr ⟨fun hm => hb (List.mem_singleton.mp hm ▸ .head _), r, q⟩)
/-- a generator that can be resumed: its next event is the j-th -/
structure GenRun (prog : Program) (w : World) (A : Around) (h₀ hp₀ : Heap) (ev : List (Nat × Str)) (W : Addr → Prop) (j : Nat) (st : GenState) (own : List (Addr × Obj)) : Prop where
  bare : st.bare = true
  inW : ∀ p ∈ own, W p.1
  go : ∀ s'' : Shared, (∀ b o, h₀.get? b = some o → s''.heap.get? b = some o) → (∀ p ∈ own, s''.heap.get? p.1 = some p.2) → (j = 0 → s''.heap = hp₀) → st.Goes (model prog w) A (escR W) (escY h₀ W ev) (ev.length - j) (.send .none) s''
theorem GenRun.fresh {prog : Program} {A : Around} {h₀ hp₀ : Heap} {C : Addr} {x : Str} {t : Tok} {oC : Obj} (hh : A.handled = none) (G : Gl w mg mb h₀) (hns : ∀ h'' : Heap, h''.get? C = some oC → h''.Ns C (lk [(Str.ofString "addr", .str x t)])) (hab : h₀.objs.size ≤ C) (ha : x.cps.all (· < 128) = true) :
    GenRun prog w A h₀ hp₀ (escOf 0 false x.cps.toList) (fun b => b = C ∨ hp₀.get? b = none) 0 (.fresh (.func (body45 w).1 (env45 w C))) [(C, oC)] where
  bare := rfl
  inW := fun p hp => .inl (by rw [List.mem_singleton.mp hp])
  go := fun s'' hk ho hz => ⟨rfl, esc_fresh hh G hk (ho _ (.head _)) hns hab (.inl rfl) (fun b hb => .inr (by rw [← hz rfl]; exact hb)) ha⟩
theorem set_set {gs : Array GenState} {g : Nat} {x y : GenState} : (gs.setIfInBounds g x).setIfInBounds g y = gs.setIfInBounds g y := by
  apply Array.ext_getElem?
  intro i
  simp only [Array.getElem?_setIfInBounds]
  by_cases h : g = i
  · subst h; simp
  · simp [h]
theorem bare_set {gs : Array GenState} {g : Nat} {x : GenState} (h : ∀ y ∈ gs, y.bare = true) (hx : x.bare = true) : ∀ y ∈ gs.setIfInBounds g x, y.bare = true := by
  intro y hy
  obtain ⟨i, hi, rfl⟩ := Array.mem_iff_getElem.mp hy
  rw [Array.getElem_setIfInBounds]
  · split
    · exact hx
    · exact h _ (Array.getElem_mem (by simpa using hi))
  · simpa using hi
theorem get_set {gs : Array GenState} {g : Nat} {x y : GenState} (h : gs[g]? = some y) : (gs.setIfInBounds g x)[g]? = some x := by
  obtain ⟨hlt, _⟩ := Array.getElem?_eq_some_iff.mp h
  simp [hlt]
section
variable {prog : Program} {A : Around} {E : Value → Shared → Prop}
theorem pyNext_genQ {s : Shared} {a : Addr} {g n : Nat} {gs : GenState} {P : Nat → Shared → Shared → Prop} {Y : Protocol} {Q : Option Value → Shared → Prop} (hh : A.handled = none)
    (hl : s.heap.NoLimit) (hroom : A.depth < recursionLimit) (hg : s.heap.IsGen a g) (hgs : s.gens[g]? = some gs)
    (hgo : gs.Goes (model prog w) A.in1 (fun n s₀ r s₁ => r = .ok (.ret .none) ∧ P n s₀ s₁) Y n (.send .none) (s.setGen g .running))
    (hY : ∀ v s₁ gs', gs'.bare = true → Y (n - 1) (s.setGen g .running) v s₁ (fun r' s'' => match n with
        | 0 => False
        | m + 1 => gs'.Goes (model prog w) A.in1 (fun n s₀ r s₁ => r = .ok (.ret .none) ∧ P n s₀ s₁) Y m r' s'') → Q (some v) (s₁.setGen g gs'))
    (hP : ∀ s₁, P n (s.setGen g .running) s₁ → ∀ h', (∀ b o, s₁.heap.get? b = some o → h'.get? b = some o) → Q none { s₁.setGen g .finished with heap := h' }) :
    wpAny (model prog w) A (pyNext (.ref a)) Q E s := by
  unfold pyNext
  refine wpAny_bind (wpAny_attempt (wpAny_callSpecial?_slot (name := Str.ofString "__next__") hg.typeIs slot_gen_next
    (wpAny_call_entry slot_gen_next hg.typeIs entry_gen_next ?_ (args_gen_next _))))
  show wpAny _ A.in1 (Builtin.Generator.genWake (.ref a) (.send .none)) _ _ s
  unfold Builtin.Generator.genWake
  refine wpAny_bind (wpAny_holding (wpAny_genNumber hg (wpAny_bind (wpAny_genState hgs ?_))))
  cases gs with
  | running => exact hgo.elim
  | finished => exact hgo.elim
  | _ =>
    refine wpAny_bind (wpAny_roomToWake hl hroom ?_)
    show wpAny _ A.in1 (.resume g (.send .none) [] _) _ _ s
    refine wpAny_resumeQ hgs hgo (fun x s₁ hx => ?_) (fun v s₁ gs' hb hv => ?_)
    · obtain ⟨rfl, hp⟩ := hx
      show wpAny _ A.in1 (newExc (.type "StopIteration") [] >>= _) _ _ _
      refine wpAny_bind ?_
      simp only [newExc, newTuple]
      refine wpAny_bind (wpAny_newObj_type ?_ (by size_fits))
      refine wpAny_bind (m := firstArgMember _ _) (wpAny_of_eq (a := Value.none) (by first | rfl | (simp only [firstArgMember]; rfl)) ?_)
      refine wpAny_newObj_type ?_ (by size_fits)
      simp only [raiseNew]
      refine wpAny_bind (wpAny_bind (wpAny_handled ?_))
      rw [show A.in1.handled = none from hh]
      refine wpAny_throw ?_
      refine wpAny_bind (wpAny_isInstance (T := "StopIteration") (b := true) ⟨_, Heap.get?_push_size _ rfl, rfl⟩ isSubtype_stop ?_)
      exact wpAny_pure (hP s₁ hp _ fun b o hb => Heap.get?_push_of_some _ (Heap.get?_push_of_some _ hb))
    · exact wpAny_pure ⟨v, rfl, wpAny_pure (hY v s₁ gs' hb hv)⟩
variable {hp : Heap} {gs : Array GenState} {dr : Drawn} {tk : Nat} {os : OsState} {h₀ hp₀ : Heap} {L a : Addr} {m : Str → Option Value} {news own : List (Addr × Obj)} {g j : Nat} {nm qn : Value} {st : GenState} {ev : List (Nat × Str)} {W : Addr → Prop}
/-- what a run leaves alone -/
structure Safe (W : Addr → Prop) (h₀ : Heap) (L a : Addr) (news : List (Addr × Obj)) : Prop where
  L : ¬ W L
  a : ¬ W a
  news : ∀ p ∈ news, ¬ W p.1
  base : ∀ b o, h₀.get? b = some o → ¬ W b
theorem Safe.fr (S : Safe W h₀ L a news) {h h' : Heap} (F : Fr h₀ L h m) (k : ExtW W h h') : Fr h₀ L h' m := by
  obtain ⟨⟨o, es, ep, e, r⟩, kp, ab⟩ := F
  exact ⟨⟨o, es, ep, k _ _ S.L e, r⟩, fun b o e => k _ _ (S.base b o e) (kp b o e), ab⟩
theorem Safe.led (S : Safe W h₀ L a news) {h h' : Heap} {oa : Obj} (N : News h₀ L h ((a, oa) :: (own ++ news))) (k : ExtW W h h') : News h₀ L h' ((a, oa) :: news) := fun p hp => by
  rcases List.mem_cons.mp hp with rfl | hp
  · exact ⟨k _ _ S.a (N _ (.head _)).1, (N _ (.head _)).2⟩
  · have z := N p (.tail _ (List.mem_append_right _ hp))
    exact ⟨k _ _ (S.news p hp) z.1, z.2⟩
theorem next_gen {i : Nat} {y : Str} {Q : Option Value → Shared → Prop} (hh : A.handled = none) (hroom : A.depth < recursionLimit) (G : Gl w mg mb h₀) (F : Fr h₀ L hp m) (N : News h₀ L hp ((a, genObj g nm qn) :: (own ++ news))) (hg : gs[g]? = some st)
    (R : GenRun prog w A.in1 h₀ hp₀ ev W j st own) (hz : j = 0 → hp = hp₀) (S : Safe W h₀ L a news) (hj : ev[j]? = some (i, y))
    (h : ∀ h' tk' st' own' T t u, Fr h₀ L h' m → News h₀ L h' ((a, genObj g nm qn) :: (own' ++ news)) → GenRun prog w A.in1 h₀ hp₀ ev W (j + 1) st' own' → h'.get? T = some (tupOf #[.int (i : Nat) t, .str y u]) → Q (some (.ref T)) ⟨h', gs.setIfInBounds g st', dr, tk', os⟩) :
    wpAny (model prog w) A (pyNext (.ref a)) Q E ⟨hp, gs, dr, tk, os⟩ := by
  have hlt : j < ev.length := (List.getElem?_eq_some_iff.mp hj).1
  refine pyNext_genQ (P := escP W) (Y := escY h₀ W ev) (n := ev.length - j) hh ((G.keeps F.keep).nolimit) hroom (isGen_of (N _ (.head _)).1) hg (R.go _ F.keep (fun p hp' => (N p (.tail _ (List.mem_append_left _ hp'))).1) hz) (fun v s₁ st' hb hY => ?_) (fun s₁ hP => ?_)
  · obtain ⟨h', tk', T, i', y', t, u, own', rfl, k, hev, rfl, hT, ho, hgo⟩ := hY
    rw [show ev.length - 1 - (ev.length - j - 1) = j by omega, hj] at hev
    cases hev
    have k' : ExtW W hp h' := k
    have hN := S.led N k'
    have := h h' tk' st' own' T t u (S.fr F k') (fun p hp' => ?_) ⟨hb, fun p hp' => (ho p hp').1, fun s'' a b _ => ?_⟩ hT
    · show Q (some (.ref T)) ⟨h', (gs.setIfInBounds g .running).setIfInBounds g st', dr, tk', os⟩
      rw [set_set]
      exact this
    · rcases List.mem_cons.mp hp' with rfl | hp'
      · exact hN _ (.head _)
      · rcases List.mem_append.mp hp' with hp' | hp'
        · obtain ⟨w1, w2⟩ := ho p hp'
          refine ⟨w2, fun e => S.L (e ▸ w1), ?_⟩
          cases q : h₀.get? p.1 with
          | none => rfl
          | some o => exact absurd w1 (S.base _ _ q)
        · exact hN _ (.tail _ hp')
    · have := hgo s'' a b
      rw [show ev.length - j = (ev.length - (j + 1)) + 1 by omega] at this
      exact this
  · obtain ⟨h0, _⟩ := hP
    omega
theorem next_gen_end {Q : Option Value → Shared → Prop} (hh : A.handled = none) (hroom : A.depth < recursionLimit) (G : Gl w mg mb h₀) (F : Fr h₀ L hp m) (N : News h₀ L hp ((a, genObj g nm qn) :: (own ++ news))) (hg : gs[g]? = some st)
    (R : GenRun prog w A.in1 h₀ hp₀ ev W ev.length st own) (hz : ev.length = 0 → hp = hp₀) (S : Safe W h₀ L a news)
    (h : ∀ h' tk', Fr h₀ L h' m → News h₀ L h' news → Q none ⟨h', gs.setIfInBounds g .finished, dr, tk', os⟩) :
    wpAny (model prog w) A (pyNext (.ref a)) Q E ⟨hp, gs, dr, tk, os⟩ := by
  refine pyNext_genQ (P := escP W) (Y := escY h₀ W ev) (n := ev.length - ev.length) hh ((G.keeps F.keep).nolimit) hroom (isGen_of (N _ (.head _)).1) hg (R.go _ F.keep (fun p hp' => (N p (.tail _ (List.mem_append_left _ hp'))).1) hz) (fun v s₁ st' hb hY => ?_) (fun s₁ hP h' hk' => ?_)
  · obtain ⟨h', tk', T, i', y', t, u, own', rfl, k, hev, rfl, hT, ho, hgo⟩ := hY
    have := hgo ⟨h', gs, dr, tk', os⟩ (fun b o e => (S.fr F k).keep b o e) (fun p hp' => (ho p hp').2)
    rw [Nat.sub_self] at this
    exact this.elim
  · obtain ⟨_, h₁, tk₁, rfl, k⟩ := hP
    have k' : ExtW W hp h' := fun b o hb e => hk' _ _ (k b o hb e)
    show Q none ⟨h', (gs.setIfInBounds g .running).setIfInBounds g .finished, dr, tk₁, os⟩
    rw [set_set]
    exact h h' tk₁ (S.fr F k') fun p hp' => S.led N k' p (.tail _ hp')
end
end Mine
end
section
local macro_rules | `(tactic| walk_at "zz") => `(tactic| fail)
theorem Mine.freshT23 : True := by
  w_top off
  trivial
namespace Mine
variable {w : World} {mg mb : Str → Option Value}
theorem letGo_gen {prog : Program} {A : Around} {E : Value → Shared → Prop} {elts : List Expr} {k} {pos : Pos} {a T g : Nat} {nm qn : Value} {Q : Unit → Shared → Prop} {s : Shared} (e : s.heap.get? a = some (genObj g nm qn)) (h : Q () s) : wpAny (model prog w) A (letOwnedTupleGo (.Tuple elts k pos) (.ref a) (.ref T)) Q E s := by
  unfold letOwnedTupleGo
  refine wpAny_bind (wpAny_load e ?_)
  exact wpAny_pure h
theorem upd_own {D : Addr} {o o' : Obj} : ∀ {own r : List (Addr × Obj)}, (∀ p ∈ own, p.1 ≠ D) → (∀ p ∈ r, p.1 ≠ D) → Upd D o o' (own ++ (D, o) :: r) (own ++ (D, o') :: r)
  | [], _, _, h => .head h
  | p :: own, _, h1, h2 => .tail (h1 p (.head _)) (upd_own (fun q hq => h1 q (.tail _ hq)) h2)
/-- the parts outside quotes, as they are gathered -/
def sqStep (x : Str) (s : Nat × Option Nat × List Str) (ev : Nat × Str) : Nat × Option Nat × List Str :=
  if ev.2 == Str.ofString "\"" then match s.2.1 with
    | none => (s.1, some ev.1, s.2.2)
    | some o => (ev.1 + 1, none, if s.1 = o then s.2.2 else s.2.2 ++ [Txt.slice x (some (s.1 : Int)) (some (o : Int))])
  else s
def sqEnd (x : Str) (s : Nat × Option Nat × List Str) : Str := Txt.join ⟨#[]⟩ (if s.1 < x.length then s.2.2 ++ [Txt.slice x (some (s.1 : Int)) none] else s.2.2)
theorem esc_len : ∀ {r : List Nat} {i : Nat} {e : Bool}, (escOf i e r).length ≤ r.length + 1
  | [], _, true => by simp [escOf]
  | [], _, false => by simp [escOf]
  | c :: r, i, true => by
    have := esc_len (r := r) (i := i + 1) (e := false)
    simp only [escOf, List.length_cons]; omega
  | c :: r, i, false => by
    unfold escOf
    split
    · have := esc_len (r := r) (i := i + 1) (e := true)
      simp only [List.length_cons]; omega
    · have := esc_len (r := r) (i := i + 1) (e := false)
      simp only [List.length_cons]; omega
theorem sq_ok {x : Str} : ∀ {l : List (Nat × Str)} {s : Nat × Option Nat × List Str}, (∀ y ∈ s.2.2, y.length ≤ x.length) → (∀ y ∈ (l.foldl (sqStep x) s).2.2, y.length ≤ x.length) ∧ (l.foldl (sqStep x) s).2.2.length ≤ s.2.2.length + l.length
  | [], s, h => ⟨h, by simp⟩
  | ev :: l, s, h => by
    have hs : (∀ y ∈ (sqStep x s ev).2.2, y.length ≤ x.length) ∧ (sqStep x s ev).2.2.length ≤ s.2.2.length + 1 := by
      unfold sqStep
      split
      · split
        · exact ⟨h, by simp⟩
        · dsimp only
          split
          · exact ⟨h, by simp⟩
          · refine ⟨fun y hy => ?_, by simp⟩
            rcases List.mem_append.mp hy with hy | hy
            · exact h y hy
            · rw [List.mem_singleton.mp hy]; exact Txt.slice_le _ _ _
      · exact ⟨h, by simp⟩
    obtain ⟨a, b⟩ := sq_ok (l := l) hs.1
    refine ⟨a, ?_⟩
    rw [List.foldl_cons, List.length_cons]
    have := hs.2
    omega
theorem sum_le {M : Nat} : ∀ {ys : List Str}, (∀ y ∈ ys, y.length ≤ M) → (ys.map (·.length)).sum ≤ ys.length * M
  | [], _ => by simp
  | y :: ys, h => by
    have := sum_le (ys := ys) fun z hz => h z (.tail _ hz)
    have h1 := h y (.head _)
    rw [List.map_cons, List.sum_cons, List.length_cons, Nat.add_mul, Nat.one_mul]
    omega
theorem f_join {prog : Program} {A : Around} {E : Value → Shared → Prop} {hp : Heap} {gs : Array GenState} {dr : Drawn} {tk : Nat} {os : OsState} {x : Str} {t : Tok} {D : Addr} {its : Array Value} {ep : Nat} {ys : List Str} {Q : Value → Shared → Prop} (hD : hp.get? D = some (listOf its ep)) (hi : StrsAre its.toList ys) (hx : x.length ≤ 1) (hM : ∀ y ∈ ys, y.length ≤ 1000) (hn : ys.length ≤ 2000)
    (h : ∀ t' k, Q (.str (Txt.join x ys) t') ⟨hp, gs, dr, k, os⟩) : wpAny (model prog w) A (call (.builtin "str.join") [.str x t, .ref D]) Q E ⟨hp, gs, dr, tk, os⟩ := by
  obtain ⟨vs⟩ := its
  refine PyProof.Rows.join_list (PySem.IsL.isList (n := ep) hD) hi ?_ h
  have h1 := sum_le hM
  have h2 := Nat.mul_le_mul_right 1000 hn
  have h3 := Nat.mul_le_mul hn hx
  omega
theorem take_snoc {α β : Type} {l : List α} {j : Nat} {a : α} {f : β → α → β} {z : β} (h : l[j]? = some a) : (l.take (j + 1)).foldl f z = f ((l.take j).foldl f z) a := by
  rw [List.take_add_one, h]
  simp
def stripF (x : Str) : Str := if 34 ∈ x.cps.toList then sqEnd x ((escOf 0 false x.cps.toList).foldl (sqStep x) (0, none, [])) else x
theorem f_lenS {prog : Program} {A : Around} {E : Value → Shared → Prop} {hp : Heap} {gs : Array GenState} {dr : Drawn} {tk : Nat} {os : OsState} {x : Str} {t : Tok} {Q : Value → Shared → Prop} (hz : x.length ≤ 2 ^ 24) (h : Q (.int ((x.length : Nat) : Int) (tk + 1)) ⟨hp, gs, dr, tk + 1 + 1, os⟩) : wpAny (model prog w) A (call (.builtin "len") [.str x t]) Q E ⟨hp, gs, dr, tk, os⟩ := by
  exact PySem.P.len_str (by omega) h
local macro_rules | `(tactic| walk_at "call builtin:len") => `(tactic| refine f_lenS (by omega) ?_)
theorem strip_spec {prog : Program} {A : Around} {E : Value → Shared → Prop} {hp : Heap} {gs : Array GenState} {dr : Drawn} {tk : Nat} {os : OsState} {x : Str} {t : Tok} {Q : Value → Shared → Prop} (G : Gl w mg mb hp) (ha : x.cps.all (· < 128) = true) (hz : x.length ≤ 1000) (hh : A.handled = none) (hroom : A.depth + 20 < recursionLimit)
    (h : ∀ h' gs' tk' u, Ext [] hp h' → ((∀ y ∈ gs, y.bare = true) → ∀ y ∈ gs', y.bare = true) → Q (.str (stripF x) u) ⟨h', gs', dr, tk', os⟩) :
    wpAny (model prog w) A (call (.ref 52) [.str x t]) Q E ⟨hp, gs, dr, tk, os⟩ := by
  refine wpAny_call (enter (body := [_, _, _, _, _, _, _]) [("addr", .str x t)] G (by rfl) (by kernel_rfl) (by omega) (.of_eq (by kernel_rfl)) (by kernel_rfl) (fun L h₁ tk F N => ?_) (by kernel_rfl) (by kernel_rfl) (by kernel_rfl) (by kernel_rfl))
  iterate 16 walk1
  · rename_i hocc
    have hq : ¬ 34 ∈ x.cps.toList := by
      have := PyProof.Rows.empty_one x 34
      rw [show (⟨#[34]⟩ : Str) = Str.ofString "\"" by decide, hocc] at this
      simpa using this.symm
    have := h h₁ gs (tk + 1) t (fun b o _ e => F.keep b o e) id
    unfold stripF at this
    rw [if_neg hq] at this
    exact this
  rename_i hocc
  have hq : 34 ∈ x.cps.toList := by
    have := PyProof.Rows.empty_one x 34
    rw [show (⟨#[34]⟩ : Str) = Str.ofString "\"" by decide, hocc] at this
    simpa using this.symm
  unfold stripF at h
  rw [if_pos hq] at h
  iterate 28 walk1
  rename_i D h_r F_r N_r l_r h₂ tk₂ F₂ N₂
  refine f_gen F₂ N₂ G (room0 hroom) fun C a h₃ tk₃ oC nm qn F₃ N₃ lC hLC hCa hns => ?_
  refine wpAny_pyIter_gen (isGen_of (N₃ _ (.head _)).1) ?_
  have hDC : D < C := lC (D, _) (.head _)
  have hC0 : hp.get? C = none := (N₃ (C, oC) (.tail _ (.head _))).2.2
  have S : ∀ {its : Array Value} {ep : Nat}, Safe (fun b => b = C ∨ h₃.get? b = none) hp L a [(D, listOf its ep)] := by
    intro its ep
    have alive : ∀ {b o}, h₃.get? b = some o → b ≠ C → ¬ (b = C ∨ h₃.get? b = none) := fun e ne hor => hor.elim ne fun q => by rw [e] at q; cases q
    refine ⟨?_, ?_, fun p hp' => ?_, fun b o e => ?_⟩
    · obtain ⟨o, _, _, e, _⟩ := F₃.ns
      exact alive e (Nat.ne_of_lt hLC)
    · exact alive (N₃ _ (.head _)).1 (Nat.ne_of_gt hCa)
    · rw [List.mem_singleton.mp hp']
      exact alive (N₃ (D, listOf #[] 0) (.tail _ (.tail _ (.head _)))).1 (Nat.ne_of_lt hDC)
    · exact alive (F₃.keep _ _ e) fun q => by rw [q, hC0] at e; cases e
  have hevl : (escOf 0 false x.cps.toList).length ≤ 1001 := by
    have h1 := esc_len (r := x.cps.toList) (i := 0) (e := false)
    have h2 : x.cps.toList.length = x.length := by simp [Str.length]
    omega
  have haD : a ≠ D := Nat.ne_of_gt (Nat.lt_trans hDC hCa)
  have ownD : ∀ {own : List (Addr × Obj)}, (∀ p ∈ own, p.1 = C ∨ h₃.get? p.1 = none) → ∀ p ∈ own, p.1 ≠ D := fun ho p hp' e => (S (its := #[]) (ep := 0)).news (D, listOf #[] 0) (.head _) (e ▸ ho p hp')
  obtain ⟨ev, hev⟩ : ∃ ev, ev = escOf 0 false x.cps.toList := ⟨_, rfl⟩
  have R₀ := GenRun.fresh (prog := prog) (w := w) (A := (A.deeper (envF w 52 L)).in1) (hp₀ := h₃) (t := t) (by exact hh) G hns (Nat.le_trans F.above (Nat.le_of_lt hLC)) ha
  rw [← hev] at R₀ h hevl
  refine loop_ruleP lv_passes (fun j s' => Ex10 fun h' tk' l' gs' st own its ep ts to => All12 (s' = ⟨h', gs', dr, tk', os⟩) (Fr hp L h' (lk l')) (News hp L h' ((a, genObj gs.size nm qn) :: (own ++ [(D, listOf its ep)]))) (gs'[gs.size]? = some st) (GenRun prog w (A.deeper (envF w 52 L)).in1 hp h₃ ev (fun b => b = C ∨ h₃.get? b = none) j st own) (j = 0 → h' = h₃) ((∀ y ∈ gs, y.bare = true) → ∀ y ∈ gs', y.bare = true) (lk l' (Str.ofString "addr") = some (.str x t)) (lk l' (Str.ofString "result") = some (.ref D)) (lk l' (Str.ofString "start") = some (.int ((((ev.take j).foldl (sqStep x) (0, none, [])).1 : Nat) : Int) ts)) (lk l' (Str.ofString "open_pos") = some (match ((ev.take j).foldl (sqStep x) (0, none, [])).2.1 with | none => .none | some o => .int (o : Nat) to)) (StrsAre its.toList ((ev.take j).foldl (sqStep x) (0, none, [])).2.2)) ev.length ?h0 ?turn ?done
  case h0 =>
    refine ⟨h₃, tk₃, _, _, _, [(C, oC)], #[], 0, _, 0, rfl, F₃, N₃, Array.getElem?_push_size .., R₀, fun _ => rfl, fun hb y hy => ?_, lk_of (by rfl), lk_hit, lk_of (by rfl), lk_of (by rfl), .nil⟩
    rcases Array.mem_push.mp hy with hy | rfl
    · exact hb y hy
    · rfl
  case done =>
    rintro Pd1 Xd1 hPd1 _ ⟨h', tk', l', gs', st, own, its, ep, ts, to, rfl, F', N', hg, R, hz0, hb, la, lr, ls, lo, hst⟩
    refine next_gen_end hh (room0 hroom) G F' N' hg R hz0 S fun h₄ tk₄ F₄ N₄ => ⟨rfl, hPd1 _ ?_⟩
    rw [List.take_length] at ls lo hst
    obtain ⟨sq, hsq⟩ : ∃ sq, sq = ev.foldl (sqStep x) (0, none, []) := ⟨_, rfl⟩
    rw [← hsq] at ls lo hst h
    obtain ⟨hM, hn⟩ := sq_ok (x := x) (l := ev) (s := (0, none, [])) (fun _ hy => nomatch hy)
    rw [← hsq] at hM hn
    have hn' : sq.2.2.length ≤ 1001 := by simpa using Nat.le_trans hn (by simpa using hevl)
    have hM' : ∀ y ∈ sq.2.2, y.length ≤ 1000 := fun y hy => Nat.le_trans (hM y hy) hz
    have hits : its.size = sq.2.2.length := by rw [← hst.length]; simp
    have hes : (Str.ofString "") = (⟨#[]⟩ : Str) := by decide
    have hb' : (∀ y ∈ gs, y.bare = true) → ∀ y ∈ gs'.setIfInBounds gs.size .finished, y.bare = true := fun q => bare_set (hb q) rfl
    unfold sqEnd at h
    by_cases hst0 : sq.1 < x.length
    · rw [if_pos hst0] at h
      iterate 44 walk1
      rename_i h₅ t₅ tk₅ F₅ z₅ h₆ F₆ N₆
      refine f_join (N₆ (D, _) (.head _)).1 (ys := sq.2.2 ++ [Txt.slice x (some (sq.1 : Int)) none]) (by rw [Array.toList_push]; exact hst.append' (.cons _ _ .nil)) (by decide) (fun y hy => ?_) (by simp; omega) fun t₇ tk₇ => ?_
      · rcases List.mem_append.mp hy with hy | hy
        · exact hM' y hy
        · rw [List.mem_singleton.mp hy]; exact Nat.le_trans (Txt.slice_le _ _ _) hz
      · iterate 2 walk1
        rw [hes]
        exact h _ _ _ _ (fun b o _ e => F₆.keep b o e) hb'
    · rw [if_neg hst0] at h
      iterate 26 walk1
      refine f_join (N₄ (D, _) (.head _)).1 hst (by decide) hM' (by omega) fun t₇ tk₇ => ?_
      iterate 2 walk1
      rw [hes]
      exact h _ _ _ _ (fun b o _ e => F₄.keep b o e) hb'
  case turn =>
    rintro Po1 Xo1 hXo1 j _ hj hPo1 ⟨h', tk', l', gs', st, own, its, ep, ts, to, rfl, F', N', hg, R, hz0, hb, la, lr, ls, lo, hst⟩
    obtain ⟨⟨i, y⟩, hjy⟩ : ∃ p, ev[j]? = some p := ⟨_, List.getElem?_eq_getElem hj⟩
    refine next_gen hh (room0 hroom) G F' N' hg R hz0 S hjy fun h₄ tk₄ st₄ own₄ T t₄ u₄ F₄ N₄ R₄ hT => ⟨_, rfl, letGo_gen (N₄ _ (.head _)).1 ?_⟩
    refine f_unpack2 F₄ N₄ ⟨_, hT, rfl, _, rfl⟩ hh fun h₅ F₅ N₅ => ?_
    have hnext := take_snoc (f := sqStep x) (z := (0, none, [])) hjy
    obtain ⟨sq, hsq⟩ : ∃ sq, sq = (ev.take j).foldl (sqStep x) (0, none, []) := ⟨_, rfl⟩
    rw [← hsq] at ls lo hst hnext
    have hb₄ : (∀ y ∈ gs, y.bare = true) → ∀ y ∈ gs'.setIfInBounds gs.size st₄, y.bare = true := fun q => bare_set (hb q) R₄.bare
    have hg₄ : (gs'.setIfInBounds gs.size st₄)[gs.size]? = some st₄ := get_set hg
    by_cases hqu : (y == Str.ofString "\"") = true
    · have hsn : sqStep x sq (i, y) = match sq.2.1 with
        | none => (sq.1, some i, sq.2.2)
        | some o => (i + 1, none, if sq.1 = o then sq.2.2 else sq.2.2 ++ [Txt.slice x (some (sq.1 : Int)) (some (o : Int))]) := by
        unfold sqStep
        rw [if_pos hqu]
      cases hop : sq.2.1 with
      | none =>
        rw [hop] at hsn lo
        dsimp only at hsn lo
        iterate 28 walk1
        rename_i h₆ tk₆ F₆ N₆ h₇ tk₇ F₇ N₇ h₈ tk₈ F₈ N₈
        refine hPo1 _ _ (lp_next ?_)
        refine ⟨h₈, _, _, _, st₄, own₄, its, ep, ts, t₄, rfl, F₈, N₈, hg₄, R₄, fun e => absurd e (Nat.succ_ne_zero j), hb₄, lk_miss (by kernel_rfl) (lk_miss (by kernel_rfl) (lk_miss (by kernel_rfl) la)), lk_miss (by kernel_rfl) (lk_miss (by kernel_rfl) (lk_miss (by kernel_rfl) lr)), ?_, ?_, ?_⟩
        · rw [hnext, hsn]; exact lk_miss (by kernel_rfl) (lk_miss (by kernel_rfl) (lk_miss (by kernel_rfl) ls))
        · rw [hnext, hsn]; exact lk_hit
        · rw [hnext, hsn]; exact hst
      | some o =>
        rw [hop] at hsn lo
        dsimp only at hsn lo
        by_cases hso : sq.1 = o
        · rw [if_pos hso] at hsn
          have hso' : ((sq.1 : Nat) : Int) = ((o : Nat) : Int) := by rw [hso]
          iterate 46 walk1
          rename_i h₆ tk₆ F₆ N₆ h₇ tk₇ F₇ N₇ h₈ tk₈ F₈ N₈ h₉ tk₉ F₉ N₉
          refine hPo1 _ _ (lp_next ?_)
          refine ⟨h₉, _, _, _, st₄, own₄, its, ep, _, 0, rfl, F₉, N₉, hg₄, R₄, fun e => absurd e (Nat.succ_ne_zero j), hb₄, lk_miss (by kernel_rfl) (lk_miss (by kernel_rfl) (lk_miss (by kernel_rfl) (lk_miss (by kernel_rfl) la))), lk_miss (by kernel_rfl) (lk_miss (by kernel_rfl) (lk_miss (by kernel_rfl) (lk_miss (by kernel_rfl) lr))), (by rw [hnext, hsn]; exact lk_miss (by kernel_rfl) lk_hit), (by rw [hnext, hsn]; exact lk_hit), (by rw [hnext, hsn]; exact hst)⟩
        · rw [if_neg hso] at hsn
          have hso' : ¬ ((sq.1 : Nat) : Int) = ((o : Nat) : Int) := fun e => hso (by omega)
          iterate 30 walk1
          rename_i h₆ tk₆ F₆ N₆ h₇ tk₇ F₇ N₇
          have Nl : News hp L h₇ [(D, listOf its ep)] := fun p hm => N₇ p (.tail _ (List.mem_append_right _ hm))
          walk1
          clear Nl
          iterate 10 walk1
          refine PyProof.Rows.slice_strN_ss F₇ N₇ (fun h₈ t₈ k₈ F₈ N₈ => ?_) (hsz := by rw [sizeLine_eq]; omega)
          iterate 1 walk1
          have hits : its.size ≤ 2 ^ 20 := by
            have h1 := (sq_ok (x := x) (l := ev.take j) (s := (0, none, [])) (fun _ hy => nomatch hy)).2
            rw [← hsq] at h1
            have h2 := hst.length
            have h3 : (ev.take j).length ≤ ev.length := by rw [List.length_take]; exact Nat.min_le_right _ _
            have h4 : its.toList.length = its.size := by simp
            have h5 : (((0, none, []) : Nat × Option Nat × List Str).2.2).length = 0 := rfl
            omega
          refine f_append F₈ N₈ (.tail haD (upd_own (ownD R₄.inW) fun _ hm => nomatch hm)) (fun h₉ F₉ N₉ => ?_) hits
          iterate 21 walk1
          rename_i h_a tk_a F_a N_a h_b tk_b F_b N_b
          refine hPo1 _ _ (lp_next ?_)
          refine ⟨h_b, _, _, _, st₄, own₄, _, _, _, 0, rfl, F_b, N_b, hg₄, R₄, fun e => absurd e (Nat.succ_ne_zero j), hb₄, lk_miss (by kernel_rfl) (lk_miss (by kernel_rfl) (lk_miss (by kernel_rfl) (lk_miss (by kernel_rfl) la))), lk_miss (by kernel_rfl) (lk_miss (by kernel_rfl) (lk_miss (by kernel_rfl) (lk_miss (by kernel_rfl) lr))), (by rw [hnext, hsn]; exact lk_miss (by kernel_rfl) lk_hit), (by rw [hnext, hsn]; exact lk_hit), (by rw [hnext, hsn, Array.toList_push]; exact hst.append' (.cons _ _ .nil))⟩
    · have hsn : sqStep x sq (i, y) = sq := by unfold sqStep; rw [if_neg hqu]
      rw [hsn] at hnext
      iterate 13 walk1
      rename_i h₆ tk₆ F₆ N₆ h₇ tk₇ F₇ N₇
      refine hPo1 _ _ (lp_next ?_)
      refine ⟨h₇, _, _, _, st₄, own₄, its, ep, ts, to, rfl, F₇, N₇, hg₄, R₄, fun e => absurd e (Nat.succ_ne_zero j), hb₄, lk_miss (by kernel_rfl) (lk_miss (by kernel_rfl) la), lk_miss (by kernel_rfl) (lk_miss (by kernel_rfl) lr), ?_, ?_, ?_⟩
      · rw [hnext]; exact lk_miss (by kernel_rfl) (lk_miss (by kernel_rfl) ls)
      · rw [hnext]; exact lk_miss (by kernel_rfl) (lk_miss (by kernel_rfl) lo)
      · rw [hnext]; exact hst
end Mine
end
section
theorem Mine.freshT24 : True := by
  w_top off
  trivial
namespace Mine
variable {w : World} {mg mb : Str → Option Value}
/-- the count of open parentheses; none: it went below nought -/
def ckStep : Option Int → Nat × Str → Option Int
  | none, _ => none
  | some n, ev => if ev.2 == Str.ofString "(" then some (n + 1) else if ev.2 == Str.ofString ")" then (if n - 1 < 0 then none else some (n - 1)) else some n
theorem ck_some {n : Int} {i : Nat} {z : Str} : ckStep (some n) (i, z) = if (z == Str.ofString "(") = true then some (n + 1) else if (z == Str.ofString ")") = true then (if n - 1 < 0 then none else some (n - 1)) else some n := rfl
def ckRun (y : Str) : Option Int := (escOf 0 false y.cps.toList).foldl ckStep (some 0)
def checkF (x : Str) : Bool := match ckRun (stripF x) with | none => false | some n => n == 0
theorem ck_none : ∀ {l : List (Nat × Str)}, l.foldl ckStep none = none
  | [] => rfl
  | _ :: l => ck_none (l := l)
theorem check_spec {prog : Program} {A : Around} {E : Value → Shared → Prop} {hp : Heap} {gs : Array GenState} {dr : Drawn} {tk : Nat} {os : OsState} {x : Str} {t : Tok} {Q : Value → Shared → Prop} (G : Gl w mg mb hp) (ha : x.cps.all (· < 128) = true) (hz : x.length ≤ 1000) (ha' : (stripF x).cps.all (· < 128) = true) (hz' : (stripF x).length ≤ 1000) (hh : A.handled = none) (hroom : A.depth + 30 < recursionLimit)
    (h : ∀ h' gs' tk', Ext [] hp h' → ((∀ y ∈ gs, y.bare = true) → ∀ y ∈ gs', y.bare = true) → Q (.bool (checkF x)) ⟨h', gs', dr, tk', os⟩) :
    wpAny (model prog w) A (call (.ref 59) [.str x t]) Q E ⟨hp, gs, dr, tk, os⟩ := by
  refine wpAny_call (enter (body := [_, _, _, _]) [("addr", .str x t)] G (by rfl) (by kernel_rfl) (by omega) (.of_eq (by kernel_rfl)) (by kernel_rfl) (fun L h₁ tk F N => ?_) (by kernel_rfl) (by kernel_rfl) (by kernel_rfl) (by kernel_rfl))
  iterate 9 walk1
  refine strip_spec (G.keeps F.keep) ha hz hh (room1 hroom) fun h₂ gs₂ tk₂ u₂ k₂ b₂ => ?_
  have F₂ := fr_ext F (as := []) (fun _ hx => nomatch hx) k₂
  have N₂ : News hp L h₂ [] := fun _ hm => nomatch hm
  clear F N
  unfold checkF ckRun at h
  obtain ⟨y, hy⟩ : ∃ y, y = stripF x := ⟨_, rfl⟩
  rw [← hy] at ha' hz' h ⊢
  iterate 16 walk1
  rename_i h₅ tk₅ F₅ N₅ h₆ tk₆ F₆ N₆
  refine f_gen F₆ N₆ G (room0 hroom) fun C a h₃ tk₃ oC nm qn F₃ N₃ lC hLC hCa hns => ?_
  refine wpAny_pyIter_gen (isGen_of (N₃ _ (.head _)).1) ?_
  have hC0 : hp.get? C = none := (N₃ (C, oC) (.tail _ (.head _))).2.2
  have S : Safe (fun b => b = C ∨ h₃.get? b = none) hp L a [] := by
    have alive : ∀ {b o}, h₃.get? b = some o → b ≠ C → ¬ (b = C ∨ h₃.get? b = none) := fun e ne hor => hor.elim ne fun q => by rw [e] at q; cases q
    refine ⟨?_, ?_, (fun _ hm => nomatch hm), fun b o e => ?_⟩
    · obtain ⟨o, _, _, e, _⟩ := F₃.ns
      exact alive e (Nat.ne_of_lt hLC)
    · exact alive (N₃ _ (.head _)).1 (Nat.ne_of_gt hCa)
    · exact alive (F₃.keep _ _ e) fun q => by rw [q, hC0] at e; cases e
  obtain ⟨ev, hev⟩ : ∃ ev, ev = escOf 0 false y.cps.toList := ⟨_, rfl⟩
  have R₀ := GenRun.fresh (prog := prog) (w := w) (A := (A.deeper (envF w 59 L)).in1) (hp₀ := h₃) (t := u₂) (by exact hh) G hns (Nat.le_trans F₅.above (Nat.le_of_lt hLC)) ha'
  rw [← hev] at R₀ h
  refine loop_ruleP lv_passes (fun j s' => Ex8 fun h' tk' l' gs' st own n ts => All9 (s' = ⟨h', gs', dr, tk', os⟩) (Fr hp L h' (lk l')) (News hp L h' ((a, genObj gs₂.size nm qn) :: (own ++ []))) (gs'[gs₂.size]? = some st) (GenRun prog w (A.deeper (envF w 59 L)).in1 hp h₃ ev (fun b => b = C ∨ h₃.get? b = none) j st own) (j = 0 → h' = h₃) ((∀ y ∈ gs, y.bare = true) → ∀ y ∈ gs', y.bare = true) ((ev.take j).foldl ckStep (some 0) = some n) (lk l' (Str.ofString "opens") = some (.int n ts))) ev.length ?h0 ?turn ?done
  case h0 =>
    refine ⟨h₃, tk₃, _, _, _, [(C, oC)], 0, _, rfl, F₃, N₃, Array.getElem?_push_size .., R₀, fun _ => rfl, fun hb y hy => ?_, rfl, lk_hit⟩
    rcases Array.mem_push.mp hy with hy | rfl
    · exact b₂ hb y hy
    · rfl
  case done =>
    rintro Pd1 Xd1 hPd1 _ ⟨h', tk', l', gs', st, own, n, ts, rfl, F', N', hg, R, hz0, hb, hn, lo⟩
    refine next_gen_end hh (room0 hroom) G F' N' hg R hz0 S fun h₄ tk₄ F₄ N₄ => ⟨rfl, hPd1 _ ?_⟩
    rw [List.take_length] at hn
    rw [hn] at h
    have hb' : (∀ y ∈ gs, y.bare = true) → ∀ y ∈ gs'.setIfInBounds gs₂.size .finished, y.bare = true := fun q => bare_set (hb q) rfl
    iterate 9 walk1
    exact h _ _ _ (fun b o _ e => F₄.keep b o e) hb'
  case turn =>
    rintro Po1 Xo1 hXo1 j _ hj hPo1 ⟨h', tk', l', gs', st, own, n, ts, rfl, F', N', hg, R, hz0, hb, hn, lo⟩
    obtain ⟨⟨i, z⟩, hjy⟩ : ∃ p, ev[j]? = some p := ⟨_, List.getElem?_eq_getElem hj⟩
    refine next_gen hh (room0 hroom) G F' N' hg R hz0 S hjy fun h₄ tk₄ st₄ own₄ T t₄ u₄ F₄ N₄ R₄ hT => ⟨_, rfl, letGo_gen (N₄ _ (.head _)).1 ?_⟩
    refine f_unpack2 F₄ N₄ ⟨_, hT, rfl, _, rfl⟩ hh fun h₇ F₇ N₇ => ?_
    have hnext := take_snoc (f := ckStep) (z := some 0) hjy
    rw [hn] at hnext
    have hb₄ : (∀ y ∈ gs, y.bare = true) → ∀ y ∈ gs'.setIfInBounds gs₂.size st₄, y.bare = true := fun q => bare_set (hb q) R₄.bare
    have hg₄ : (gs'.setIfInBounds gs₂.size st₄)[gs₂.size]? = some st₄ := get_set hg
    by_cases q1 : (z == Str.ofString "(") = true
    · have hs : ckStep (some n) (i, z) = some (n + 1) := by rw [ck_some, if_pos q1]
      iterate 20 walk1
      rename_i h_a tk_a F_a N_a h_b tk_b F_b N_b h_c tk_c F_c N_c
      exact hPo1 _ _ (lp_next ⟨h_c, _, _, _, st₄, own₄, n + 1, _, rfl, F_c, N_c, hg₄, R₄, fun e => absurd e (Nat.succ_ne_zero j), hb₄, hnext.trans hs, lk_hit⟩)
    · by_cases q2 : (z == Str.ofString ")") = true
      · by_cases q3 : n - 1 < 0
        · have hs : ckStep (some n) (i, z) = none := by rw [ck_some, if_neg q1, if_pos q2, if_pos q3]
          have hall : ev.foldl ckStep (some 0) = none := by
            have e := List.take_append_drop (j + 1) ev
            rw [← e, List.foldl_append, hnext, hs, ck_none]
          rw [hall] at h
          iterate 40 walk1
          rename_i h_a tk_a F_a N_a h_b tk_b F_b N_b h_c tk_c F_c N_c
          refine hPo1 _ _ (lp_ret ?_)
          iterate 2 walk1
          exact h _ _ _ (fun b o _ e => F_c.keep b o e) hb₄
        · have hs : ckStep (some n) (i, z) = some (n - 1) := by rw [ck_some, if_neg q1, if_pos q2, if_neg q3]
          iterate 40 walk1
          rename_i h_a tk_a F_a N_a h_b tk_b F_b N_b h_c tk_c F_c N_c
          exact hPo1 _ _ (lp_next ⟨h_c, _, _, _, st₄, own₄, n - 1, _, rfl, F_c, N_c, hg₄, R₄, fun e => absurd e (Nat.succ_ne_zero j), hb₄, hnext.trans hs, lk_hit⟩)
      · have hs : ckStep (some n) (i, z) = some n := by rw [ck_some, if_neg q1, if_neg q2]
        iterate 23 walk1
        rename_i h_a tk_a F_a N_a h_b tk_b F_b N_b
        exact hPo1 _ _ (lp_next ⟨h_b, _, _, _, st₄, own₄, n, ts, rfl, F_b, N_b, hg₄, R₄, fun e => absurd e (Nat.succ_ne_zero j), hb₄, hnext.trans hs, lk_miss (by kernel_rfl) (lk_miss (by kernel_rfl) lo)⟩)
end Mine
end
section
theorem Mine.freshT25 : True := by
  w_top off
  trivial
namespace Mine
variable {w : World} {mg mb : Str → Option Value}
abbrev liObj (l : Addr) (i : Nat) : Obj := { cls := .type "list_iterator", data := .fields #[.ref l, .int (i : Int) 0] }
section
variable {prog : Program} {A : Around} {E : Value → Shared → Prop} {hp : Heap} {gs : Array GenState} {dr : Drawn} {tk : Nat} {os : OsState} {h₀ : Heap} {L I D : Addr} {m : Str → Option Value} {news : List (Addr × Obj)} {its : Array Value} {x : Value} {o : Obj}
/-- a list's iterator at its i-th item -/
structure LI (o : Obj) (l : Addr) (i : Nat) : Prop where
  c : o.cls = .type "list_iterator"
  d : o.data = .fields #[.ref l, .int (i : Int) 0]
theorem f_iter_list {Q : Value → Shared → Prop} (F : Fr h₀ L hp m) (N : News h₀ L hp news) (hD : hp.IsList D its)
    (h : ∀ I h' o, Fr h₀ L h' m → News h₀ L h' ((I, o) :: news) → (∀ p ∈ news, p.1 < I) → LI o D 0 → Q (.ref I) ⟨h', gs, dr, tk, os⟩) : wpAny (model prog w) A (pyIter (.ref D)) Q E ⟨hp, gs, dr, tk, os⟩ := by
  refine wpAny_pyIter_list hD ?_
  exact h _ _ (liObj D 0) (F.push _) (News.push F N _) (fun p hp => Heap.lt_size (N p hp).1) ⟨rfl, rfl⟩
theorem next_list {i : Nat} {Q : Option Value → Shared → Prop} (F : Fr h₀ L hp m) (N : News h₀ L hp ((I, o) :: news)) (hne : ∀ p ∈ news, p.1 ≠ I) (ho : LI o D i) (hD : hp.IsList D its) (hx : its[i]? = some x)
    (h : ∀ h' o', Fr h₀ L h' m → News h₀ L h' ((I, o') :: news) → LI o' D (i + 1) → Q (some x) ⟨h', gs, dr, tk, os⟩) : wpAny (model prog w) A (pyNext (.ref I)) Q E ⟨hp, gs, dr, tk, os⟩ := by
  refine wpAny_pyNext_list_item (it := I) (l := D) (i := i) ⟨o, (N _ (.head _)).1, ho.c, ho.d⟩ hD hx fun h' hit hs => ?_
  obtain ⟨o', ho', hc', hd'⟩ := hit
  obtain ⟨F', N'⟩ := led_set F N hne hs ho'
  exact h h' o' F' N' ⟨hc', hd'⟩
theorem next_list_end {i : Nat} {Q : Option Value → Shared → Prop} (hh : A.handled = none) (F : Fr h₀ L hp m) (N : News h₀ L hp ((I, o) :: news)) (hne : ∀ p ∈ news, p.1 ≠ I) (ho : LI o D i) (hD : hp.IsList D its) (hx : its[i]? = none)
    (h : ∀ h', Fr h₀ L h' m → News h₀ L h' news → Q none ⟨h', gs, dr, tk, os⟩) : wpAny (model prog w) A (pyNext (.ref I)) Q E ⟨hp, gs, dr, tk, os⟩ := by
  refine wpAny_pyNext_list_end (l := D) (i := i) hh ⟨o, (N _ (.head _)).1, ho.c, ho.d⟩ hD hx fun h' hs => ?_
  have z := N _ (.head _)
  have k : Ext [I] hp h' := fun b o hb e => hs b o (fun q => hb (List.mem_singleton.mpr q)) e
  exact h h' (fr_ext F (fun a ha => by rw [List.mem_singleton.mp ha]; exact z.2) k) (news_ext N k fun p hp => .inl ⟨.tail _ hp, fun q => hne p hp (List.mem_singleton.mp q)⟩)
theorem letGo_list {target : Expr} {v : Value} {i : Nat} {Q : Unit → Shared → Prop} (N : News h₀ L hp ((I, o) :: news)) (ho : LI o D i) (h : Q () ⟨hp, gs, dr, tk, os⟩) : wpAny (model prog w) A (letOwnedTupleGo target (.ref I) v) Q E ⟨hp, gs, dr, tk, os⟩ :=
  PyProof.Rows.letGo_listiter (t := D) (i := i) ⟨o, (N _ (.head _)).1, ho.c, ho.d⟩ h
end
/-- a text put behind one of the signs -/
def addAt (l : List Str) (i : Nat) (s : Str) : List Str := l.set i (l.getD i ⟨#[]⟩ ++ s)
def lineG (way : List (Nat × Nat)) (k : Nat) (dress : List Str) (a b : Str) : List Str :=
  let l := (way.take k).foldl (fun l pq => addAt (addAt l pq.1 (Str.ofString "\"")) pq.2 (Str.ofString "\"")) dress
  let pq := way.getD k (0, 0)
  addAt (addAt l pq.1 a) pq.2 b
def lineF (way : List (Nat × Nat)) (k : Nat) (dress : List Str) (a b : Str) : Str := Txt.join ⟨#[]⟩ (lineG way k dress a b)
/-- a way in the heap -/
def WayAt (h : Heap) (v : Value) (way : List (Nat × Nat)) : Prop := ∃ (l : Addr) (vs : List Value), v = .ref l ∧ h.IsList l vs.toArray ∧ vs.length = way.length ∧ ∀ (i : Nat) (pq : Nat × Nat), way[i]? = some pq → ∃ (t : Addr) (t1 t2 : Tok), vs[i]? = some (.ref t) ∧ IsTup h t #[.int (pq.1 : Nat) t1, .int (pq.2 : Nat) t2]
end Mine
end
section
theorem Mine.freshT26 : True := by
  w_top off
  trivial
namespace Mine
variable {w : World} {mg mb : Str → Option Value}
theorem strs_set : ∀ {vs : List Value} {ys : List Str} {i : Nat} {s : Str} {t : Tok}, StrsAre vs ys → StrsAre (vs.set i (.str s t)) (ys.set i s)
  | _, _, _, _, _, .nil => .nil
  | _, _, 0, s, t, .cons _ _ r => .cons s t r
  | _, _, i + 1, _, _, .cons y u r => .cons y u (strs_set (i := i) r)
theorem strs_get : ∀ {vs : List Value} {ys : List Str} {i : Nat}, StrsAre vs ys → i < ys.length → ∃ t, vs[i]? = some (.str (ys.getD i ⟨#[]⟩) t)
  | _, _, 0, .cons y t _, _ => ⟨t, rfl⟩
  | _, _, i + 1, .cons _ _ r, h => by
    obtain ⟨t, e⟩ := strs_get (i := i) r (Nat.lt_of_succ_lt_succ h)
    exact ⟨t, by simpa using e⟩
theorem isTup_keep {h h' : Heap} {t : Addr} {its : Array Value} (k : ∀ b o, h.get? b = some o → h'.get? b = some o) (x : IsTup h t its) : IsTup h' t its := let ⟨o, ho, r⟩ := x; ⟨o, k _ _ ho, r⟩
theorem f_getL {prog : Program} {A : Around} {E : Value → Shared → Prop} {hp : Heap} {gs : Array GenState} {dr : Drawn} {tk : Nat} {os : OsState} {S k : Nat} {its : Array Value} {ep : Nat} {u : Tok} {v : Value} {Q : Value → Shared → Prop} (hD : hp.get? S = some (listOf its ep)) (hk : k < 2 ^ 62) (hx : its[k]? = some v) (h : Q v ⟨hp, gs, dr, tk, os⟩) :
    wpAny (model prog w) A (getItem (.ref S) (.int (k : Nat) u)) Q E ⟨hp, gs, dr, tk, os⟩ := by
  obtain ⟨vs⟩ := its
  exact wpAny_getItem_list (PySem.IsL.isList (n := ep) hD) (by omega) (by omega) (by simpa using hx) h
theorem f_iaddS {prog : Program} {A : Around} {E : Value → Shared → Prop} {hp : Heap} {gs : Array GenState} {dr : Drawn} {tk : Nat} {os : OsState} {x y : Str} {t u : Tok} {Q : Value → Shared → Prop} (hz : x.length + y.length ≤ 2 ^ 20) (h : ∀ t' k, Q (.str (x ++ y) t') ⟨hp, gs, dr, k, os⟩) :
    wpAny (model prog w) A (inplaceOp .Add (.str x t) (.str y u)) Q E ⟨hp, gs, dr, tk, os⟩ := by
  refine PySem.SB.iadd (fun t' k => h t' k) (by rw [sizeLine_eq]; omega)
theorem f_copy {prog : Program} {A : Around} {E : Value → Shared → Prop} {hp : Heap} {gs : Array GenState} {dr : Drawn} {tk : Nat} {os : OsState} {h₀ : Heap} {L D : Addr} {m : Str → Option Value} {news : List (Addr × Obj)} {its : Array Value} {Q : Value → Shared → Prop} (F : Fr h₀ L hp m) (N : News h₀ L hp news) (hl : h₀.IsList D its) (hz : its.size ≤ 2 ^ 20)
    (h : ∀ D' c h', Fr h₀ L h' m → News h₀ L h' ((D', listOf its c) :: news) → (∀ q ∈ news, q.1 < D') → Q (.ref D') ⟨h', gs, dr, tk, os⟩) : wpAny (model prog w) A (call (.type "list") [.ref D]) Q E ⟨hp, gs, dr, tk, os⟩ :=
  list_copyK F N (stays_list F.keep hl) h (by rw [sizeLine_eq]; omega)
local macro_rules | `(tactic| walk_at "call type:list") => `(tactic| (refine f_copy (by assumption) (by assumption) (by assumption) (by simp only [List.size_toArray]; omega) ?_; intro _ _ _ _ _ _))
theorem getD_le {y : List Str} {i M : Nat} (h : ∀ s ∈ y, s.length ≤ M) : (y.getD i ⟨#[]⟩).length ≤ M := by
  rw [List.getD_eq_getElem?_getD]
  cases q : y[i]? with
  | none => exact Nat.zero_le _
  | some s => exact h s (List.mem_of_getElem? q)
theorem addAt_ok {y : List Str} {i M m : Nat} {s : Str} (h : ∀ z ∈ y, z.length ≤ M) (hs : s.length ≤ m) : (addAt y i s).length = y.length ∧ ∀ z ∈ addAt y i s, z.length ≤ M + m := by
  unfold addAt
  refine ⟨List.length_set, fun z hz => ?_⟩
  rcases List.mem_or_eq_of_mem_set hz with hz | rfl
  · exact Nat.le_trans (h z hz) (Nat.le_add_right _ _)
  · rw [Str.length_append]
    exact Nat.add_le_add (getD_le h) hs
theorem at_tup {prog : Program} {A : Around} {E : Value → Shared → Prop} {s : Shared} {value slice : Expr} {Q : Value → Shared → Prop} {u : Tok} {t : Addr} {items : Array Value} {k : Nat} {x : Value} (ht : IsTup s.heap t items) (hk : k < 2 ^ 62) (hx : items[k]? = some x) (h : Q x s)
    (hs : subscripted slice false (.ref t) (.int (k : Int) u) = operate [.ref t, .int (k : Int) u] (getItem (.ref t) (.int (k : Int) u)) := by with_unfolding_all rfl) :
    wpAny (model prog w) A (subscriptTail value slice (.ref t) (.int (k : Int) u)) Q E s :=
  tail_any ht.typeIs slot_tuple_getitem.lookup (PyProof.Rows.getItem_tuple ht (by omega) (by omega) (j := k) (by
    have : k < items.size := by
      rcases Nat.lt_or_ge k items.size with q | q
      · exact q
      · rw [Array.getElem?_eq_none q] at hx; cases hx
    unfold seqIndex?
    simp
    omega) hx h) hs
local macro_rules | `(tactic| walk_at "eval Constant int") => `(tactic| first | refine f_int1 ?_ | refine f_int0 ?_)
theorem at_tup0 {prog : Program} {A : Around} {E : Value → Shared → Prop} {s : Shared} {value slice : Expr} {Q : Value → Shared → Prop} {u : Tok} {t : Addr} {x y : Value} (ht : IsTup s.heap t #[x, y]) (h : Q x s)
    (hs : subscripted slice false (.ref t) (.int ((0 : Nat) : Int) u) = operate [.ref t, .int ((0 : Nat) : Int) u] (getItem (.ref t) (.int ((0 : Nat) : Int) u)) := by with_unfolding_all rfl) :
    wpAny (model prog w) A (subscriptTail value slice (.ref t) (.int ((0 : Nat) : Int) u)) Q E s := at_tup (k := 0) ht (by decide) rfl h hs
theorem at_tup1 {prog : Program} {A : Around} {E : Value → Shared → Prop} {s : Shared} {value slice : Expr} {Q : Value → Shared → Prop} {u : Tok} {t : Addr} {x y : Value} (ht : IsTup s.heap t #[x, y]) (h : Q y s)
    (hs : subscripted slice false (.ref t) (.int ((1 : Nat) : Int) u) = operate [.ref t, .int ((1 : Nat) : Int) u] (getItem (.ref t) (.int ((1 : Nat) : Int) u)) := by with_unfolding_all rfl) :
    wpAny (model prog w) A (subscriptTail value slice (.ref t) (.int ((1 : Nat) : Int) u)) Q E s := at_tup (k := 1) ht (by decide) rfl h hs
local macro_rules | `(tactic| walk_at "subscriptTail") => `(tactic| first | refine at_list (by assumption) (by omega) (by assumption) ?_ | refine at_tup0 (by assumption) ?_ | refine at_tup1 (by assumption) ?_)
theorem line_spec {prog : Program} {A : Around} {E : Value → Shared → Prop} {hp : Heap} {gs : Array GenState} {dr : Drawn} {tk : Nat} {os : OsState} {wv : Value} {way : List (Nat × Nat)} {k : Nat} {D : Addr} {vs : List Value} {dress : List Str} {a b : Str} {t1 t2 t3 : Tok} {Q : Value → Shared → Prop} (G : Gl w mg mb hp)
    (hw : WayAt hp wv way) (hk : k < way.length) (hwl : way.length ≤ 3) (hd : hp.IsList D vs.toArray) (hds : StrsAre vs dress) (hdl : dress.length = 7) (hpq : ∀ pq ∈ way, pq.1 < 7 ∧ pq.2 < 7) (hz : ∀ s ∈ dress, s.length ≤ 2) (hza : a.length ≤ 2) (hzb : b.length ≤ 2) (hh : A.handled = none) (hroom : A.depth + 10 < recursionLimit)
    (h : ∀ h' tk' u, Ext [] hp h' → Q (.str (lineF way k dress a b) u) ⟨h', gs, dr, tk', os⟩) :
    wpAny (model prog w) A (call (.ref 275) [wv, .int (k : Nat) t1, .ref D, .str a t2, .str b t3]) Q E ⟨hp, gs, dr, tk, os⟩ := by
  refine wpAny_call (enter (body := [_, _, _, _, _]) [("second", .str b t3), ("first", .str a t2), ("dress", .ref D), ("k", .int (k : Nat) t1), ("way", wv)] G (by rfl) (by kernel_rfl) (by omega) (.of_eq (by kernel_rfl)) (by kernel_rfl) (fun L h₁ tk F N => ?_) (by kernel_rfl) (by kernel_rfl) (by kernel_rfl) (by kernel_rfl))
  have hvl : vs.length = 7 := by rw [hds.length, hdl]
  obtain ⟨l, ws, rfl, hl, hwsl, hws⟩ := hw
  iterate 21 walk1
  rename_i S c₀ h₂ F₂ N₂ l₂ h₃ tk₃ F₃ N₃ h₄ F₄ N₄
  have hSl : S < h₃.objs.size + 1 := Nat.lt_succ_of_lt (Heap.lt_size (N₃ (S, _) (.head _)).1)
  obtain ⟨SL, hSL⟩ : ∃ SL, SL = h₃.objs.size + 1 := ⟨_, rfl⟩
  have e4 : slicePick ws.toArray none (some (k : Int)) none = (ws.take k).toArray := slicePick_upto' ws.toArray k
  rw [e4] at N₄
  dsimp only at N₄ ⊢
  rw [← hSL] at N₄ hSl ⊢
  clear F₂ N₂ l₂
  have hSLl := (PySem.IsL.isList (n := 0) (N₄ (SL, _) (.head _)).1)
  refine f_iter_list F₄ N₄ hSLl fun I h₅ oI F₅ N₅ l₅ hI => ?_
  let stp : List Str → Nat × Nat → List Str := fun l pq => addAt (addAt l pq.1 (Str.ofString "\"")) pq.2 (Str.ofString "\"")
  refine loop_ruleP lv_passes (fun j s' => Ex6 fun h' tk' l' oI its ep => All12 (s' = ⟨h', gs, dr, tk', os⟩) (Fr hp L h' (lk l')) (News hp L h' [(I, oI), (SL, listOf (ws.take k).toArray 0), (S, listOf its ep)]) (LI oI SL j) (lk l' (Str.ofString "signs") = some (.ref S)) (lk l' (Str.ofString "second") = some (.str b t3)) (lk l' (Str.ofString "first") = some (.str a t2)) (lk l' (Str.ofString "k") = some (.int (k : Nat) t1)) (lk l' (Str.ofString "way") = some (.ref l)) (StrsAre its.toList ((way.take j).foldl stp dress)) (((way.take j).foldl stp dress).length = 7) (∀ s ∈ (way.take j).foldl stp dress, s.length ≤ 2 + 2 * j)) k ?h0 ?turn ?done
  case h0 =>
    exact ⟨_, _, _, oI, vs.toArray, c₀, rfl, F₅, N₅, hI, lk_hit, lk_of (by rfl), lk_of (by rfl), lk_of (by rfl), lk_of (by rfl), by simpa using hds, hdl, by simpa using hz⟩
  case turn =>
    rintro Po1 Xo1 hXo1 j _ hj hPo1 ⟨h', tk', l', oI', its, ep, rfl, F', N', hI', ls, lb, la, lkk, lw, hst, hlen, hsz⟩
    obtain ⟨⟨p, q⟩, hpqj⟩ : ∃ r, way[j]? = some r := ⟨_, List.getElem?_eq_getElem (by omega)⟩
    obtain ⟨t, u1, u2, hwt, hT⟩ := hws j _ hpqj
    have hne : ∀ p ∈ [(SL, listOf (ws.take k).toArray 0), (S, listOf its ep)], p.1 ≠ I := by
      intro p hp'
      rcases List.mem_cons.mp hp' with rfl | hp'
      · exact Nat.ne_of_lt (l₅ (SL, _) (.head _))
      · rw [List.mem_singleton.mp hp']; exact Nat.ne_of_lt (l₅ (S, listOf vs.toArray c₀) (.tail _ (.head _)))
    refine next_list (x := .ref t) F' N' hne hI' (PySem.IsL.isList (n := 0) (N' (SL, _) (.tail _ (.head _))).1) (by rw [List.getElem?_toArray, List.getElem?_take, if_pos hj]; exact hwt) fun h₆ oI₆ F₆ N₆ hI₆ => ⟨_, rfl, letGo_list N₆ hI₆ ?_⟩
    refine f_unpack2 F₆ N₆ (isTup_keep F₆.keep hT) hh fun h₇ F₇ N₇ => ?_
    iterate 6 walk1
    rename_i h₈ tk₈ F₈ N₈ h₉ tk₉ F₉ N₉
    obtain ⟨hp7, hq7⟩ := hpq (p, q) (List.mem_of_getElem? hpqj)
    dsimp only at hp7 hq7
    obtain ⟨y, hy⟩ : ∃ y, y = (way.take j).foldl stp dress := ⟨_, rfl⟩
    rw [← hy] at hst hlen hsz
    obtain ⟨tp, hgp⟩ := strs_get hst (i := p) (by rw [hlen]; exact hp7)
    have hsize : its.size = 7 := by rw [← hlen, ← hst.length]; simp
    refine f_getL (N₉ (S, listOf its ep) (by k_mem)).1 (by omega) (v := .str (y.getD p ⟨#[]⟩) tp) (by rw [← hgp]; simp) ?_
    iterate 1 walk1
    have hj3 : j < 3 := by omega
    have hy1 : ∀ s ∈ y, s.length ≤ 8 := fun s hs => Nat.le_trans (hsz s hs) (by omega)
    have hq1 : (Str.ofString "\"").length = 1 := by decide
    have hgl : (y.getD p ⟨#[]⟩).length ≤ 8 := getD_le hy1
    refine f_iaddS (Nat.le_trans (Nat.add_le_add hgl (Nat.le_of_eq hq1)) (by decide)) fun t' k' => ?_
    refine set_led F₉ N₉ (.tail (hne (S, listOf its ep) (.tail _ (.head _))).symm (.tail (Nat.ne_of_gt hSl) (.head fun _ hm => nomatch hm))) (show p < its.size by omega) (show p < 2 ^ 62 by omega) fun h_a F_a N_a => ?_
    iterate 5 walk1
    obtain ⟨hl1, hz1⟩ := addAt_ok (i := p) (s := Str.ofString "\"") hy1 (Nat.le_of_eq hq1)
    have hst1 : StrsAre (its.setIfInBounds p (.str (y.getD p ⟨#[]⟩ ++ Str.ofString "\"") t')).toList (addAt y p (Str.ofString "\"")) := by
      rw [Array.toList_setIfInBounds]
      exact strs_set hst
    obtain ⟨tq, hgq⟩ := strs_get hst1 (i := q) (by rw [hl1, hlen]; exact hq7)
    refine f_getL (N_a (S, listOf (its.setIfInBounds p (.str (y.getD p ⟨#[]⟩ ++ Str.ofString "\"") t')) ep) (by k_mem)).1 (by omega) (v := .str ((addAt y p (Str.ofString "\"")).getD q ⟨#[]⟩) tq) (by rw [← hgq, Array.getElem?_toList]) ?_
    iterate 1 walk1
    have hgl1 : ((addAt y p (Str.ofString "\"")).getD q ⟨#[]⟩).length ≤ 9 := getD_le hz1
    refine f_iaddS (Nat.le_trans (Nat.add_le_add hgl1 (Nat.le_of_eq hq1)) (by decide)) fun t₂' k₂' => ?_
    refine set_led F_a N_a (.tail (hne (S, listOf its ep) (.tail _ (.head _))).symm (.tail (Nat.ne_of_gt hSl) (.head fun _ hm => nomatch hm))) (show q < (its.setIfInBounds p _).size by rw [Array.size_setIfInBounds]; omega) (show q < 2 ^ 62 by omega) fun h_b F_b N_b => ?_
    iterate 2 walk1
    have hnext := take_snoc (f := stp) (z := dress) hpqj
    rw [← hy] at hnext
    refine hPo1 _ _ (lp_next ⟨h_b, _, _, oI₆, _, ep, rfl, F_b, N_b, hI₆, lk_miss (by kernel_rfl) (lk_miss (by kernel_rfl) ls), lk_miss (by kernel_rfl) (lk_miss (by kernel_rfl) lb), lk_miss (by kernel_rfl) (lk_miss (by kernel_rfl) la), lk_miss (by kernel_rfl) (lk_miss (by kernel_rfl) lkk), lk_miss (by kernel_rfl) (lk_miss (by kernel_rfl) lw), ?_, ?_, ?_⟩)
    · rw [hnext, Array.toList_setIfInBounds]; exact strs_set hst1
    · rw [hnext]; exact (List.length_set.trans hl1).trans hlen
    · rw [hnext]
      have g1 := (addAt_ok (i := p) hsz (Nat.le_of_eq hq1)).2
      have g2 := (addAt_ok (i := q) g1 (Nat.le_of_eq hq1)).2
      exact fun s hs => Nat.le_trans (g2 s hs) (by omega)
  case done =>
    rintro Pd1 Xd1 hPd1 _ ⟨h', tk', l', oI', its, ep, rfl, F', N', hI', ls, lb, la, lkk, lw, hst, hlen, hsz⟩
    obtain ⟨⟨p, q⟩, hpqj⟩ : ∃ r, way[k]? = some r := ⟨_, List.getElem?_eq_getElem (by omega)⟩
    obtain ⟨t, u1, u2, hwt, hT⟩ := hws k _ hpqj
    have hne : ∀ p ∈ [(SL, listOf (ws.take k).toArray 0), (S, listOf its ep)], p.1 ≠ I := by
      intro p hp'
      rcases List.mem_cons.mp hp' with rfl | hp'
      · exact Nat.ne_of_lt (l₅ (SL, _) (.head _))
      · rw [List.mem_singleton.mp hp']; exact Nat.ne_of_lt (l₅ (S, listOf vs.toArray c₀) (.tail _ (.head _)))
    refine next_list_end hh F' N' hne hI' (PySem.IsL.isList (n := 0) (N' (SL, _) (.tail _ (.head _))).1) (by rw [List.getElem?_toArray, List.getElem?_take, if_neg (Nat.lt_irrefl _)]) fun h₆ F₆ N₆ => ⟨rfl, hPd1 _ ?_⟩
    clear N' F'
    replace N₆ : News hp L h₆ [(S, listOf its ep)] := fun p hp => N₆ p (.tail _ hp)
    have hlF := stays_list F₆.keep hl
    have hTF := isTup_keep F₆.keep hT
    obtain ⟨hp7, hq7⟩ := hpq (p, q) (List.mem_of_getElem? hpqj)
    dsimp only at hp7 hq7
    obtain ⟨y, hy⟩ : ∃ y, y = (way.take k).foldl stp dress := ⟨_, rfl⟩
    rw [← hy] at hst hlen hsz
    have hk3 : k < 3 := by omega
    have hy1 : ∀ s ∈ y, s.length ≤ 8 := fun s hs => Nat.le_trans (hsz s hs) (by omega)
    dsimp only at hT hTF
    iterate 11 walk1
    obtain ⟨tp, hgp⟩ := strs_get hst (i := p) (by rw [hlen]; exact hp7)
    have hsize : its.size = 7 := by rw [← hlen, ← hst.length]; simp
    refine f_getL (N₆ (S, listOf its ep) (.head _)).1 (by omega) (v := .str (y.getD p ⟨#[]⟩) tp) (by rw [← hgp]; simp) ?_
    iterate 1 walk1
    have hgl : (y.getD p ⟨#[]⟩).length ≤ 8 := getD_le hy1
    refine f_iaddS (Nat.le_trans (Nat.add_le_add hgl hza) (by decide)) fun t' k' => ?_
    refine set_led F₆ N₆ (.head fun _ hm => nomatch hm) (show p < its.size by omega) (show p < 2 ^ 62 by omega) fun h_a F_a N_a => ?_
    clear hlF hTF
    have hlF := stays_list F_a.keep hl
    have hTF := isTup_keep F_a.keep hT
    iterate 11 walk1
    obtain ⟨hl1, hz1⟩ := addAt_ok (i := p) (s := a) hy1 hza
    have hst1 : StrsAre (its.setIfInBounds p (.str (y.getD p ⟨#[]⟩ ++ a) t')).toList (addAt y p a) := by
      rw [Array.toList_setIfInBounds]
      exact strs_set hst
    obtain ⟨tq, hgq⟩ := strs_get hst1 (i := q) (by rw [hl1, hlen]; exact hq7)
    refine f_getL (N_a (S, listOf (its.setIfInBounds p (.str (y.getD p ⟨#[]⟩ ++ a) t')) ep) (.head _)).1 (by omega) (v := .str ((addAt y p a).getD q ⟨#[]⟩) tq) (by rw [← hgq, Array.getElem?_toList]) ?_
    iterate 1 walk1
    have hgl1 : ((addAt y p a).getD q ⟨#[]⟩).length ≤ 10 := getD_le hz1
    refine f_iaddS (Nat.le_trans (Nat.add_le_add hgl1 hzb) (by decide)) fun t₂' k₂' => ?_
    refine set_led F_a N_a (.head fun _ hm => nomatch hm) (show q < (its.setIfInBounds p _).size by rw [Array.size_setIfInBounds]; omega) (show q < 2 ^ 62 by omega) fun h_b F_b N_b => ?_
    have hst2 : StrsAre ((its.setIfInBounds p (.str (y.getD p ⟨#[]⟩ ++ a) t')).setIfInBounds q (.str ((addAt y p a).getD q ⟨#[]⟩ ++ b) t₂')).toList (addAt (addAt y p a) q b) := by
      rw [Array.toList_setIfInBounds]
      exact strs_set hst1
    obtain ⟨hl2, hz2⟩ := addAt_ok (i := q) (s := b) hz1 hzb
    generalize (its.setIfInBounds p (.str (y.getD p ⟨#[]⟩ ++ a) t')).setIfInBounds q (.str ((addAt y p a).getD q ⟨#[]⟩ ++ b) t₂') = its2 at hst2 N_b
    iterate 10 walk1
    have hnil : Str.ofString "" = (⟨#[]⟩ : Str) := rfl
    refine f_join (N_b (S, listOf its2 ep) (.head _)).1 hst2 (by rw [hnil]; decide) (fun z hz => Nat.le_trans (hz2 z hz) (by decide)) (by rw [hl2, hl1, hlen]; decide) fun t₃' k₃' => ?_
    have hres : Txt.join (Str.ofString "") (addAt (addAt y p a) q b) = lineF way k dress a b := by
      unfold lineF lineG
      rw [hnil, List.getD_eq_getElem?_getD, hpqj, hy]
      rfl
    rw [hres]
    iterate 2 walk1
    exact h _ _ _ fun b o _ e => F_b.keep b o e
end Mine
end
section
theorem Mine.freshT27 : True := by
  w_top off
  trivial
namespace Mine
variable {w : World} {mg mb : Str → Option Value}
section
variable {prog : Program} {A : Around} {E : Value → Shared → Prop} {hp : Heap} {gs : Array GenState} {dr : Drawn} {tk : Nat} {os : OsState} {h₀ : Heap} {L l : Addr} {m : Str → Option Value} {news : List (Addr × Obj)} {Q : Value → Shared → Prop}
theorem f_sum {vs : List Value} {ns : List Int} (F : Fr h₀ L hp m) (N : News h₀ L hp news) (hh : A.handled = none) (hl : h₀.IsList l vs.toArray) (hi : IntsAre vs ns)
    (h : ∀ h' tk' t, Fr h₀ L h' m → News h₀ L h' news → Q (.int ns.sum t) ⟨h', gs, dr, tk', os⟩) : wpAny (model prog w) A (call (.builtin "sum") [.ref l]) Q E ⟨hp, gs, dr, tk, os⟩ := by
  obtain ⟨xs, hxs⟩ := hi.allInts.items
  rw [hxs] at hl
  have e : (numsOf (intItems xs).toList).sum = ns.sum := by rw [← hxs, show vs.toArray.toList = vs from rfl, hi.numsOf]
  rw [nums_intItems] at e
  refine sum_intListG hh (s := ⟨hp, gs, dr, tk, os⟩) (stays_list F.keep hl) fun h' tk' t' hk => ?_
  rw [preSum_eq, List.take_of_length_le (by simp), e]
  exact h h' tk' t' (F.keeps hk) (news_keep N hk)
theorem f_abs {a : Int} {t : Tok} (h : ∀ u tk', Q (.int (a.natAbs : Nat) u) ⟨hp, gs, dr, tk', os⟩) : wpAny (model prog w) A (call (.builtin "abs") [.int a t]) Q E ⟨hp, gs, dr, tk, os⟩ := by
  refine PyProof.Rows.call_abs_int (s := ⟨hp, gs, dr, tk, os⟩) fun u tk' => ?_
  have e : (if a < 0 then -a else a) = (a.natAbs : Int) := by split <;> omega
  rw [e]
  exact h u tk'
theorem f_modN {a b : Nat} {t u : Tok} (hb : b ≠ 0) (hs : b < 2 ^ 29) (h : Q (.int ((a % b : Nat) : Int) tk) ⟨hp, gs, dr, tk + 1, os⟩) : wpAny (model prog w) A (binaryOp .Mod (.int (a : Int) t) (.int (b : Int) u)) Q E ⟨hp, gs, dr, tk, os⟩ := by
  refine PyProof.Rows.mod_int (s := ⟨hp, gs, dr, tk, os⟩) (by omega) ?_
  rw [Int.fmod_eq_emod_of_nonneg _ (by omega)]
  exact h
theorem f_intK {i : Int} (c : Nat) (e : i = (c : Int)) {k : Nat} {pos : Pos} {env : Env} (h : Q (.int (c : Int) tk) ⟨hp, gs, dr, tk + 1, os⟩) : wpAny (model prog w) A (eval (.Constant (.int i) k pos) env) Q E ⟨hp, gs, dr, tk, os⟩ := by subst e; exact f_int h
theorem f_intA (c : Nat) {i : Int} {k : Nat} {pos : Pos} {env : Env} (h : Q (.int (c : Int) tk) ⟨hp, gs, dr, tk + 1, os⟩) (e : i = (c : Int) := by with_unfolding_all rfl) : wpAny (model prog w) A (eval (.Constant (.int i) k pos) env) Q E ⟨hp, gs, dr, tk, os⟩ := f_intK c e h
theorem f_lenL {vs : List Value} (F : Fr h₀ L hp m) (hl : h₀.IsList l vs.toArray) (hz : vs.length ≤ 2 ^ 20) (h : Q (.int ((vs.length : Nat) : Int) (tk + 1)) ⟨hp, gs, dr, tk + 1 + 1, os⟩) : wpAny (model prog w) A (call (.builtin "len") [.ref l]) Q E ⟨hp, gs, dr, tk, os⟩ :=
  PySem.Calls.call_len_list (stays_list F.keep hl) (by rw [List.size_toArray]; omega) (by rw [List.size_toArray]; exact h)
end
def things : List Str := [Str.ofString "\\\"", Str.ofString "\\(", Str.ofString "\"\"", Str.ofString "\\\\", Str.ofString "\\)", Str.ofString "o"]
def dressF (ns : List Int) : List Str := (List.replicate 7 (⟨#[]⟩ : Str)).set ((ns.sum.natAbs + 3) % 7) (things.getD (ns.length % 6) ⟨#[]⟩)
local macro_rules | `(tactic| walk_at "eval Constant int") => `(tactic| first | refine f_intK 0 (by with_unfolding_all rfl) ?_ | refine f_intK 1 (by with_unfolding_all rfl) ?_ | refine f_intK 3 (by with_unfolding_all rfl) ?_ | refine f_intK 6 (by with_unfolding_all rfl) ?_ | refine f_intK 7 (by with_unfolding_all rfl) ?_)
local macro_rules | `(tactic| walk_at "binaryOp Mult ref int") => `(tactic| (refine f_rep (by assumption) (by assumption) (by k_mem) (by omega) ?_; intro _ _ _ _ _))
local macro_rules | `(tactic| walk_at "binaryOp Mod int int") => `(tactic| refine f_modN (by omega) (by omega) ?_)
local macro_rules | `(tactic| walk_at "binaryOp Add int int") => `(tactic| refine f_addN ?_)
local macro_rules | `(tactic| walk_at "call builtin:sum") => `(tactic| (refine f_sum (by assumption) (by assumption) (by assumption) (by assumption) (by assumption) ?_; intro _ _ _ _ _))
local macro_rules | `(tactic| walk_at "call builtin:abs") => `(tactic| (refine f_abs ?_; intro _ _))
local macro_rules | `(tactic| walk_at "call builtin:len") => `(tactic| refine f_lenL (by assumption) (by assumption) (by omega) ?_)
theorem dress_spec {prog : Program} {A : Around} {E : Value → Shared → Prop} {hp : Heap} {gs : Array GenState} {dr : Drawn} {tk : Nat} {os : OsState} {D : Addr} {vs : List Value} {ns : List Int} {Q : Value → Shared → Prop} (G : Gl w mg mb hp)
    (hl : hp.IsList D vs.toArray) (hi : IntsAre vs ns) (hn : ns.length ≤ 63) (hh : A.handled = none) (hroom : A.depth + 10 < recursionLimit)
    (h : ∀ h' tk' S vs', Ext [] hp h' → hp.get? S = none → h'.get? S = some (listOf vs'.toArray 0) → StrsAre vs' (dressF ns) → Q (.ref S) ⟨h', gs, dr, tk', os⟩) :
    wpAny (model prog w) A (call (.ref 268) [.ref D]) Q E ⟨hp, gs, dr, tk, os⟩ := by
  refine wpAny_call (enter (body := [_, _, _, _]) [("script", .ref D)] G (by rfl) (by kernel_rfl) (by omega) (.of_eq (by kernel_rfl)) (by kernel_rfl) (fun L h₁ tk F N => ?_) (by kernel_rfl) (by kernel_rfl) (by kernel_rfl) (by kernel_rfl))
  have hh' : (A.deeper (envF w 268 L)).handled = none := hh
  have hvn := hi.length
  iterate 45 walk1
  rename_i l1 h1 F1 N1 q1 S h2 F2 N2 q2 h3 tk3 F3 N3 l2 h4 F4 N4 q4 h5 tk5 F5 N5
  have hth : StrsAre [Value.str (Str.ofString "\\\"") tk3, Value.str (Str.ofString "\\(") (tk3 + 1), Value.str (Str.ofString "\"\"") (tk3 + 1 + 1), Value.str (Str.ofString "\\\\") (tk3 + 1 + 1 + 1), Value.str (Str.ofString "\\)") (tk3 + 1 + 1 + 1 + 1), Value.str (Str.ofString "o") (tk3 + 1 + 1 + 1 + 1 + 1)] things :=
    .cons _ _ (.cons _ _ (.cons _ _ (.cons _ _ (.cons _ _ (.cons _ _ .nil)))))
  obtain ⟨tx, htx⟩ := strs_get hth (i := vs.length % 6) (Nat.mod_lt _ (by decide))
  refine at_list (PySem.IsL.isList (n := 0) (N5 (l2, _) (.head _)).1) (show vs.length % 6 < 2 ^ 62 by omega) htx ?_
  iterate 20 walk1
  rename_i h6 tk6 t6 F6 N6 u7 tk7
  have hm := Nat.mod_lt (ns.sum.natAbs + 3) (show 0 < 7 by decide)
  refine set_led F6 N6 (.tail (Nat.ne_of_gt (q4 (S, _) (.head _))) (.head fun p hp => Nat.ne_of_lt (q2 p hp))) (by rw [Array.size_replicate]; exact hm) (show (ns.sum.natAbs + 3) % 7 < 2 ^ 62 by omega) fun h7 F7 N7 => ?_
  iterate 6 walk1
  have ez : (Array.replicate 7 (Value.str (Str.ofString "") tk)).setIfInBounds ((ns.sum.natAbs + 3) % 7) (Value.str (things.getD (vs.length % 6) ⟨#[]⟩) tx) = ((List.replicate 7 (Value.str (Str.ofString "") tk)).set ((ns.sum.natAbs + 3) % 7) (Value.str (things.getD (vs.length % 6) ⟨#[]⟩) tx)).toArray := by
    apply Array.toList_inj.mp
    rw [Array.toList_setIfInBounds, Array.toList_replicate]
  refine h _ _ S _ (fun b o _ e => F7.keep b o e) (N7 (S, _) (.tail _ (.head _))).2.2 ((N7 (S, _) (.tail _ (.head _))).1.trans (congrArg (fun z => some (listOf z 0)) ez)) ?_
  unfold dressF
  rw [hvn]
  have hnil : Str.ofString "" = (⟨#[]⟩ : Str) := rfl
  refine strs_set (vs := List.replicate 7 (Value.str (Str.ofString "") tk)) (ys := List.replicate 7 ⟨#[]⟩) ?_
  rw [hnil]
  exact .cons _ _ (.cons _ _ (.cons _ _ (.cons _ _ (.cons _ _ (.cons _ _ (.cons _ _ .nil))))))
end Mine
end
section
theorem Mine.freshT28 : True := by
  w_top off
  trivial
namespace Mine
variable {w : World} {mg mb : Str → Option Value}
/-- an iterator of a range that goes up by one -/
abbrev riObj (x n : Nat) : Obj := { cls := .type "range_iterator", dict := none, data := .fields #[rawInt (x : Int), rawInt (n : Int), rawInt 1], slots := #[] }
section
variable {prog : Program} {A : Around} {E : Value → Shared → Prop} {hp : Heap} {gs : Array GenState} {dr : Drawn} {tk : Nat} {os : OsState} {h₀ : Heap} {L I D : Addr} {m : Str → Option Value} {news : List (Addr × Obj)}
theorem f_range1 {K : Value → Shared → Prop} {Q : Value → Shared → Prop} {b : Nat} {u : Tok} (F : Fr h₀ L hp m) (N : News h₀ L hp news) (hb : b < 2 ^ 60)
    (h : ∀ I h' tk', Fr h₀ L h' m → News h₀ L h' ((I, riObj 0 b) :: news) → (∀ p ∈ news, p.1 < I) → Q (.ref I) ⟨h', gs, dr, tk', os⟩)
    (hK : ∀ R s, wpAny (model prog w) A (pyIter (.ref R)) Q E s → K (.ref R) s) : wpAny (model prog w) A (call (.type "range") [.int (b : Nat) u]) K E ⟨hp, gs, dr, tk, os⟩ := by
  refine call_range_1 (s := ⟨hp, gs, dr, tk, os⟩) (hK _ _ ?_)
  refine wpAny_pyIter_range (IsRange.new hp _ _ _ _ _ _) (small_one (by omega) (by omega) (by omega) (by omega)) ?_
  have e : Builtin.Range.rangeSize 0 (b : Int) 1 = ((b : Nat) : Int) := by rw [rangeSize_one]; split <;> omega
  rw [e]
  refine h _ _ _ ((F.push _).push _) ?_ ?_
  · exact News.push (F.push _) (N.grown fun _ _ e => Heap.get?_push_of_some _ e) _
  · intro p hp'
    exact Nat.lt_of_lt_of_le (Heap.lt_size (N p hp').1) (by show hp.objs.size ≤ (hp.push _).objs.size; rw [Heap.size_push]; exact Nat.le_succ _)
theorem f_iter_range {Q : Value → Shared → Prop} {R : Addr} {a b : Nat} {t u v : Tok} (hr : IsRange hp R (a : Nat) (b : Nat) 1 t u v) (F : Fr h₀ L hp m) (N : News h₀ L hp news) (hb : b < 2 ^ 60) (hab : a ≤ b)
    (h : ∀ I h', Fr h₀ L h' m → News h₀ L h' ((I, riObj a (b - a)) :: news) → (∀ p ∈ news, p.1 < I) → Q (.ref I) ⟨h', gs, dr, tk, os⟩) : wpAny (model prog w) A (pyIter (.ref R)) Q E ⟨hp, gs, dr, tk, os⟩ := by
  refine wpAny_pyIter_range hr (small_one (by omega) (by omega) (by omega) (by omega)) ?_
  have e : Builtin.Range.rangeSize (a : Int) (b : Int) 1 = ((b - a : Nat) : Int) := by rw [rangeSize_one]; split <;> omega
  rw [e]
  exact h _ _ (F.push _) (News.push F N _) fun p hp' => Heap.lt_size (N p hp').1
theorem next_range {x n : Nat} {Q : Option Value → Shared → Prop} (F : Fr h₀ L hp m) (N : News h₀ L hp ((I, riObj x n) :: news)) (hne : ∀ p ∈ news, p.1 ≠ I) (hn : 0 < n)
    (h : ∀ h' t tk', Fr h₀ L h' m → News h₀ L h' ((I, riObj (x + 1) (n - 1)) :: news) → Q (some (.int (x : Nat) t)) ⟨h', gs, dr, tk', os⟩) : wpAny (model prog w) A (pyNext (.ref I)) Q E ⟨hp, gs, dr, tk, os⟩ := by
  refine wpAny_pyNext_range_item (x := (x : Int)) (left := (n : Int)) (step := 1) (N _ (.head _)).1 (by omega) fun h' hit hs => ?_
  obtain ⟨F', N'⟩ := led_set F N hne hs hit
  have e1 : (x : Int) + 1 = ((x + 1 : Nat) : Int) := by omega
  have e2 : (n : Int) - 1 = ((n - 1 : Nat) : Int) := by omega
  rw [e1, e2] at N'
  exact h h' _ _ F' N'
theorem next_range_end {x : Nat} {Q : Option Value → Shared → Prop} (hh : A.handled = none) (F : Fr h₀ L hp m) (N : News h₀ L hp ((I, riObj x 0) :: news)) (hne : ∀ p ∈ news, p.1 ≠ I)
    (h : ∀ h', Fr h₀ L h' m → News h₀ L h' news → Q none ⟨h', gs, dr, tk, os⟩) : wpAny (model prog w) A (pyNext (.ref I)) Q E ⟨hp, gs, dr, tk, os⟩ := by
  have z := N _ (.head _)
  refine wpAny_pyNext_range_end (x := (x : Int)) (left := ((0 : Nat) : Int)) (step := 1) hh z.1 (by omega) fun h' hs => ?_
  have k : Ext [I] hp h' := fun b o hb e => hs b o (fun q => hb (List.mem_singleton.mpr q)) e
  exact h h' (fr_ext F (fun a ha => by rw [List.mem_singleton.mp ha]; exact z.2) k) (news_ext N k fun p hp => .inl ⟨.tail _ hp, fun q => hne p hp (List.mem_singleton.mp q)⟩)
theorem f_add_lists {l b : Addr} {vs ws : List Value} {Q : Value → Shared → Prop} (F : Fr h₀ L hp m) (N : News h₀ L hp news) (hl : hp.IsList l vs.toArray) (hb : hp.IsList b ws.toArray) (hz : vs.length + ws.length ≤ 2 ^ 20)
    (h : ∀ R h', Fr h₀ L h' m → News h₀ L h' ((R, listOf (vs ++ ws).toArray 0) :: news) → (∀ p ∈ news, p.1 < R) → hp.get? R = none → Q (.ref R) ⟨h', gs, dr, tk, os⟩) :
    wpAny (model prog w) A (binaryOp .Add (.ref l) (.ref b)) Q E ⟨hp, gs, dr, tk, os⟩ :=
  add_lists (s := ⟨hp, gs, dr, tk, os⟩) F N hl hb (fun h' F' N' => h _ h' F' N' (fun p hp' => Heap.lt_size (N p hp').1) (Heap.get?_none_of_le (Nat.le_refl _))) (by rw [sizeLine_eq]; omega)
theorem letGo_name {x : Str} {p : Pos} {it v : Value} {s : Shared} {Q : Unit → Shared → Prop} (h : Q () s) : wpAny (model prog w) A (letOwnedTupleGo (.Name x p) it v) Q E s := wpAny_of_eq rfl h
theorem f_eqNil {Q : Value → Shared → Prop} {vs : List Value} {l : Addr} {ep : Nat} (hD : hp.IsList D vs.toArray) (hl : hp.get? l = some (listOf #[] ep)) (hu : A.units < cLine) (h : Q (.bool (decide (vs.length = 0))) ⟨hp, gs, dr, tk, os⟩) :
    wpAny (model prog w) A (compareOp .Eq (.ref D) (.ref l)) Q E ⟨hp, gs, dr, tk, os⟩ := by
  by_cases e : vs.length = 0
  · have e' := List.eq_nil_of_length_eq_zero e
    subst e'
    refine PySem.SeqAt.eq_listAt (e := fun _ => true) hD (PySem.IsL.isList (n := ep) hl) rfl hu (fun j h1 => absurd h1 (Nat.not_lt_zero _)) ?_
    rw [decide_eq_true e] at h
    exact h
  · refine PySem.SeqAt.eq_list_lengthsAt hD (PySem.IsL.isList (n := ep) hl) (by simpa using e) hu ?_
    rw [decide_eq_false e] at h
    exact h
end
/-- what a callee hands out anew -/
def Fresh (hp h' : Heap) (own : List (Addr × Obj)) : Prop := ∀ p ∈ own, hp.get? p.1 = none ∧ h'.get? p.1 = some p.2
def Held (own : List (Addr × Obj)) (h : Heap) : Prop := ∀ p ∈ own, h.get? p.1 = some p.2
theorem News.held {h₀ h : Heap} {L : Addr} {own : List (Addr × Obj)} (N : News h₀ L h own) : Held own h := fun p hp => (N p hp).1
theorem Held.sub {own own' : List (Addr × Obj)} {h : Heap} (H : Held own h) (k : ∀ p ∈ own', p ∈ own) : Held own' h := fun p hp => H p (k p hp)
theorem news_fresh {h₀ hp h' : Heap} {L : Addr} {m : Str → Option Value} {news own : List (Addr × Obj)} (F : Fr h₀ L hp m) (N : News h₀ L hp news) (k : Ext [] hp h') (Y : Fresh hp h' own) :
    News h₀ L h' (news ++ own) ∧ ∀ p ∈ own, (∀ q ∈ news, p.1 ≠ q.1) ∧ p.1 ≠ L := by
  have hL : ∃ o, hp.get? L = some o := let ⟨o, _, _, e, _⟩ := F.ns; ⟨o, e⟩
  obtain ⟨oL, eL⟩ := hL
  have ne : ∀ p ∈ own, p.1 ≠ L := fun p hp' e => by have := (Y p hp').1; rw [e, eL] at this; cases this
  refine ⟨fun p hp' => ?_, fun p hp' => ⟨fun q hq e => ?_, ne p hp'⟩⟩
  · rcases List.mem_append.mp hp' with q | q
    · exact ⟨k _ _ List.not_mem_nil (N p q).1, (N p q).2⟩
    · refine ⟨(Y p q).2, ne p q, ?_⟩
      cases e : h₀.get? p.1 with
      | none => rfl
      | some o => have := F.keep _ _ e; rw [(Y p q).1] at this; cases this
  · have := (Y p hp').1
    rw [e, (N q hq).1] at this
    cases this
theorem Fresh.of_news {hp h : Heap} {L : Addr} {own : List (Addr × Obj)} (N : News hp L h own) : Fresh hp h own := fun p hq => ⟨(N p hq).2.2, (N p hq).1⟩
def WayK (own : List (Addr × Obj)) (v : Value) (way : List (Nat × Nat)) : Prop := ∃ (l : Addr) (us : List Value) (ep : Nat), v = .ref l ∧ (l, listOf us.toArray ep) ∈ own ∧ us.length = way.length ∧ ∀ (i : Nat) (pq : Nat × Nat), way[i]? = some pq → ∃ (t : Addr) (t1 t2 : Tok), us[i]? = some (.ref t) ∧ (t, tupOf #[.int (pq.1 : Nat) t1, .int (pq.2 : Nat) t2]) ∈ own
theorem WayK.at {own : List (Addr × Obj)} {v : Value} {way : List (Nat × Nat)} {h : Heap} (x : WayK own v way) (H : Held own h) : WayAt h v way :=
  let ⟨l, us, ep, a, b, c, d⟩ := x
  ⟨l, us, a, PySem.IsL.isList (n := ep) (H _ b), c, fun i pq e => let ⟨t, t1, t2, e1, m⟩ := d i pq e; ⟨t, t1, t2, e1, ⟨_, H _ m, rfl, 0, rfl⟩⟩⟩
def WaysK (acc : List Value) (own : List (Addr × Obj)) (ways : List (List (Nat × Nat))) : Prop := acc.length = ways.length ∧ ∀ (i : Nat) (way : List (Nat × Nat)), ways[i]? = some way → ∃ v, acc[i]? = some v ∧ WayK own v way
theorem WayK.sub {own own' : List (Addr × Obj)} {v : Value} {way : List (Nat × Nat)} (x : WayK own v way) (k : ∀ p ∈ own, p ∈ own') : WayK own' v way :=
  let ⟨l, us, ep, a, b, c, d⟩ := x
  ⟨l, us, ep, a, k _ b, c, fun i pq e => let ⟨t, t1, t2, e1, m⟩ := d i pq e; ⟨t, t1, t2, e1, k _ m⟩⟩
theorem WaysK.sub {own own' : List (Addr × Obj)} {acc : List Value} {ways : List (List (Nat × Nat))} (x : WaysK acc own ways) (k : ∀ p ∈ own, p ∈ own') : WaysK acc own' ways :=
  ⟨x.1, fun i way e => let ⟨v, a, b⟩ := x.2 i way e; ⟨v, a, b.sub k⟩⟩
theorem WaysK.push {own : List (Addr × Obj)} {acc : List Value} {ways : List (List (Nat × Nat))} {v : Value} {way : List (Nat × Nat)} (x : WaysK acc own ways) (y : WayK own v way) : WaysK (acc ++ [v]) own (ways ++ [way]) := by
  refine ⟨by rw [List.length_append, List.length_append, x.1]; rfl, fun i r e => ?_⟩
  rcases Nat.lt_or_ge i ways.length with q | q
  · rw [List.getElem?_append_left q] at e
    obtain ⟨u, a, b⟩ := x.2 i r e
    exact ⟨u, (List.getElem?_append_left (by rw [x.1]; exact q)).trans a, b⟩
  · rw [List.getElem?_append_right q] at e
    have hi : i = ways.length := by
      have := (List.getElem?_eq_some_iff.mp e).1
      rw [List.length_singleton] at this
      omega
    subst hi
    rw [Nat.sub_self] at e
    cases e
    exact ⟨v, by rw [← x.1, List.getElem?_append_right (Nat.le_refl _), Nat.sub_self]; rfl, y⟩
/-- a list of naturals -/
abbrev NatsAre (vs : List Value) (ps : List Nat) : Prop := IntsAre vs (ps.map Int.ofNat)
theorem NatsAre.at {vs : List Value} {ps : List Nat} (x : NatsAre vs ps) {i p : Nat} (e : ps[i]? = some p) : ∃ t, vs[i]? = some (.int (p : Nat) t) :=
  IntsAre.get x i p (by rw [List.getElem?_map, e]; rfl)
def waysN : Nat → List Nat → List (List (Nat × Nat))
  | 0, _ => [[]]
  | n + 1, ps => (List.range (ps.length - 1)).flatMap fun k => (waysN n ((ps.drop 1).take k ++ ps.drop (k + 2))).map fun way => (ps.getD 0 0, ps.getD (k + 1) 0) :: way
theorem waysN_len : ∀ (n : Nat) (ps : List Nat), ∀ way ∈ waysN n ps, way.length = n
  | 0, _, way, h => by rw [List.mem_singleton.mp h]; rfl
  | n + 1, ps, way, h => by
    obtain ⟨k, _, h⟩ := List.mem_flatMap.mp h
    obtain ⟨r, hr, rfl⟩ := List.mem_map.mp h
    rw [List.length_cons, waysN_len n _ r hr]
theorem flatMap_len {α β : Type} {f : α → List β} {B : Nat} : ∀ {l : List α}, (∀ a ∈ l, (f a).length ≤ B) → (l.flatMap f).length ≤ l.length * B
  | [], _ => Nat.zero_le _
  | a :: l, h => by
    rw [List.flatMap_cons, List.length_append, List.length_cons, Nat.succ_mul]
    have h1 := h a (.head _)
    have h2 := flatMap_len (l := l) fun b hb => h b (.tail _ hb)
    omega
theorem waysN_cnt : ∀ (n : Nat) (ps : List Nat), n ≤ 3 → ps.length ≤ 2 * n → (waysN n ps).length ≤ 6 ^ n
  | 0, ps, _, _ => Nat.le_refl _
  | n + 1, ps, hn, hp => by
    unfold waysN
    refine Nat.le_trans (flatMap_len (B := 6 ^ n) fun k hk => ?_) ?_
    · rw [List.length_map]
      refine waysN_cnt n _ (by omega) ?_
      have := List.mem_range.mp hk
      simp
      omega
    · rw [List.length_range, Nat.pow_succ, Nat.mul_comm]
      exact Nat.mul_le_mul_left _ (by omega)
theorem getD_map_nat {ps : List Nat} (i : Nat) : (List.map Int.ofNat ps).getD ((i : Nat) : Int).toNat 0 = ((ps.getD i 0 : Nat) : Int) := by
  rw [Int.toNat_natCast, List.getD_eq_getElem?_getD, List.getD_eq_getElem?_getD, List.getElem?_map]
  cases ps[i]? <;> rfl
end Mine
end
section
theorem Mine.freshT29 : True := by
  w_top off
  trivial
namespace Mine
variable {w : World} {mg mb : Str → Option Value}
local macro_rules | `(tactic| walk_at "eval Constant int") => `(tactic| first | refine f_intK 0 (by with_unfolding_all rfl) ?_ | refine f_intK 1 (by with_unfolding_all rfl) ?_)
local macro_rules | `(tactic| walk_at "binaryOp Add int int") => `(tactic| refine f_addN ?_)
local macro_rules | `(tactic| walk_at "call builtin:len") => `(tactic| refine f_lenL (by assumption) (by assumption) (by omega) ?_)
local macro_rules | `(tactic| walk_at "call type:range") => `(tactic| fail "range")
local macro_rules | `(tactic| walk_at "call ref") => `(tactic| fail "here")
theorem ways_spec {prog : Program} {E : Value → Shared → Prop} {gs : Array GenState} {dr : Drawn} {os : OsState} : ∀ (n : Nat) {A : Around} {hp : Heap} {tk : Nat} {D : Addr} {vs : List Value} {ps : List Nat} {Q : Value → Shared → Prop} (_ : Gl w mg mb hp)
    (_ : hp.IsList D vs.toArray) (_ : NatsAre vs ps) (_ : ps.length = 2 * n) (_ : n ≤ 3) (_ : A.handled = none) (_ : A.depth + 10 + n < recursionLimit) (_ : A.units + 10 * n + 10 < cLine)
    (_ : ∀ h' tk' S acc own ep, Ext [] hp h' → Fresh hp h' own → (S, listOf acc.toArray ep) ∈ own → WaysK acc own (waysN n ps) → Q (.ref S) ⟨h', gs, dr, tk', os⟩),
    wpAny (model prog w) A (call (.ref 261) [.ref D]) Q E ⟨hp, gs, dr, tk, os⟩
  | 0, A, hp, tk, D, vs, ps, Q, G, hl, hi, hps, hn3, hh, hroom, hu, h => by
    refine wpAny_call (enter (body := [_, _, _, _]) [("points", .ref D)] G (by rfl) (by kernel_rfl) (by omega) (.of_eq (by kernel_rfl)) (by kernel_rfl) (fun L h₁ tk F N => ?_) (by kernel_rfl) (by kernel_rfl) (by kernel_rfl) (by kernel_rfl))
    have hh' : (A.deeper (envF w 261 L)).handled = none := hh
    have hvl : vs.length = 0 := by rw [IntsAre.length hi, List.length_map]; exact hps
    iterate 7 walk1
    rename_i l1 h2 F2 N2 q2
    refine f_eqNil (stays_list F2.keep hl) (N2 (l1, _) (.head _)).1 (by show A.units + 3 < cLine; omega) ?_
    rw [decide_eq_true hvl]
    iterate 14 walk1
    rename_i l2 h3 F3 N3 q3 l3 h4 F4 N4 q4
    refine h _ _ _ [.ref l2] [(l3, listOf #[.ref l2] 0), (l2, listOf #[] 0)] 0 (fun b o _ e => F4.keep b o e) (Fresh.of_news fun p hp => N4 p ?_) (.head _) ⟨rfl, fun i way e => ?_⟩
    · rcases List.mem_cons.mp hp with rfl | hp
      · exact .head _
      · rw [List.mem_singleton.mp hp]; exact .tail _ (.head _)
    · cases i with
      | succ i => exact nomatch e
      | zero =>
        cases e
        exact ⟨_, rfl, ⟨l2, [], 0, rfl, .tail _ (.head _), rfl, fun i pq e => nomatch e⟩⟩
  | n + 1, A, hp, tk, D, vs, ps, Q, G, hl, hi, hps, hn3, hh, hroom, hu, h => by
    refine wpAny_call (enter (body := [_, _, _, _]) [("points", .ref D)] G (by rfl) (by kernel_rfl) (by omega) (.of_eq (by kernel_rfl)) (by kernel_rfl) (fun L h₁ tk F N => ?_) (by kernel_rfl) (by kernel_rfl) (by kernel_rfl) (by kernel_rfl))
    have hh' : (A.deeper (envF w 261 L)).handled = none := hh
    have hvl : vs.length = 2 * (n + 1) := by rw [IntsAre.length hi, List.length_map]; exact hps
    have hi2 : ∀ j, NatsAre (((vs.drop 1).take (1 + j - 1)) ++ (vs.drop (1 + j + 1))) ((ps.drop 1).take j ++ ps.drop (j + 2)) := by
      intro j
      have a1 := (IntsAre.take (IntsAre.drop hi 1) j).append (IntsAre.drop hi (j + 2))
      rw [show 1 + j - 1 = j by omega, show 1 + j + 1 = j + 2 by omega]
      show IntsAre _ (List.map Int.ofNat _)
      rw [List.map_append, List.map_take, List.map_drop, List.map_drop]
      exact a1
    have hat : ∀ i, i < ps.length → ∃ t, vs[i]? = some (.int (ps.getD i 0 : Nat) t) := fun i h => NatsAre.at hi (by rw [List.getD_eq_getElem?_getD, List.getElem?_eq_getElem h]; rfl)
    iterate 7 walk1
    rename_i l1 h2 F2 N2 q2
    refine f_eqNil (stays_list F2.keep hl) (N2 (l1, _) (.head _)).1 (by show A.units + 3 < cLine; omega) ?_
    rw [decide_eq_false (show ¬ vs.length = 0 by omega)]
    iterate 28 walk1
    rename_i S h3 F3 N3 q3 h4 tk4 F4 N4 e4 h5 tk5 t1 u1 v1 hR5 F5 N5 k5
    clear F3 N3 F4 N4 k5
    rw [List.length_map, hps] at hR5
    replace N5 : News hp L h5 [(S, listOf #[] 0)] := fun p hp => N5 p (by rw [List.mem_singleton.mp hp]; exact .head _)
    refine f_iter_range (a := 1) (b := 2 * (n + 1)) hR5 F5 N5 (by omega) (by omega) fun I h6 F6 N6 q6 => ?_
    have hSI : S ≠ I := Nat.ne_of_lt (q6 (S, _) (.head _))
    let g : Nat → List (List (Nat × Nat)) := fun k => (waysN n ((ps.drop 1).take k ++ ps.drop (k + 2))).map fun way => (ps.getD 0 0, ps.getD (k + 1) 0) :: way
    refine loop_ruleP lv_passes (fun j s' => Ex6 fun h' tk' l' acc own ep => All7 (s' = ⟨h', gs, dr, tk', os⟩) (Fr hp L h' (lk l')) (News hp L h' ((I, riObj (1 + j) (2 * (n + 1) - 1 - j)) :: (S, listOf acc.toArray ep) :: own)) (∀ p ∈ own, p.1 ≠ I ∧ p.1 ≠ S) (lk l' (Str.ofString "ways") = some (.ref S)) (lk l' (Str.ofString "points") = some (.ref D)) (WaysK acc own ((List.range j).flatMap g))) (2 * (n + 1) - 1) ?h0 ?turn ?done
    case h0 => exact ⟨_, _, _, [], [], 0, rfl, F6, N6, (fun _ hp => nomatch hp), lk_of (by rfl), lk_of (by rfl), rfl, fun i way e => by simp at e⟩
    case done =>
      rintro Pd1 Xd1 hPd1 _ ⟨h', tk', l', acc, own, ep, rfl, F', N', hs, ls, lp, hw⟩
      rw [Nat.sub_self] at N'
      refine next_range_end hh' F' N' (ne_cons hSI (fun p hp => (hs p hp).1)) fun h7 F7 N7 => ⟨rfl, hPd1 _ ?_⟩
      iterate 6 walk1
      refine h _ _ S acc ((S, listOf acc.toArray ep) :: own) ep (fun b o _ e => F7.keep b o e) (Fresh.of_news N7) (.head _) ?_
      have e : waysN (n + 1) ps = (List.range (2 * (n + 1) - 1)).flatMap g := by
        rw [← hps]
        rfl
      rw [e]
      exact hw.sub fun p hp => .tail _ hp
    case turn =>
      rintro Po1 Xo1 hXo1 j _ hj hPo1 ⟨h', tk', l', acc, own, ep, rfl, F', N', hs, ls, lp, hw⟩
      refine next_range F' N' (ne_cons hSI (fun p hp => (hs p hp).1)) (by omega) fun h7 t7 tk7 F7 N7 => ⟨_, rfl, letGo_name ?_⟩
      obtain ⟨k, hk⟩ : ∃ k, k = 1 + j := ⟨_, rfl⟩
      iterate 29 walk1
      rename_i h8 tk8 F8 N8 h9 F9 N9 h10 F10 N10
      clear N8 F8 F9 N9
      dsimp only at F10 N10 ⊢
      generalize h8.objs.size + 1 = A1 at N10 ⊢
      generalize h9.objs.size + 1 = A2 at N10 ⊢
      rw [slicePick_run vs.toArray 1 (1 + j) (by rw [List.size_toArray]; omega) (by omega), slicePick_from' vs.toArray (1 + j + 1)] at N10
      refine f_add_lists F10 N10 (PySem.IsL.isList (n := 0) (N10 (A1, _) (.tail _ (.head _))).1) (PySem.IsL.isList (n := 0) (N10 (A2, _) (.head _)).1) (by simp; omega) fun D2 h11 F11 N11 q11 _ => ?_
      have hD2 := PySem.IsL.isList (n := 0) (N11 (D2, _) (.head _)).1
      replace N11 : News hp L h11 ((I, riObj (1 + j + 1) (2 * (n + 1) - 1 - j - 1)) :: (S, listOf acc.toArray ep) :: own) := fun p hp => N11 p (.tail _ (.tail _ (.tail _ hp)))
      clear N10 F10 q11
      iterate 1 walk1
      refine cw_ G F11 ?_
      refine ways_spec n (G.keeps F11.keep) hD2 (hi2 j) (by simp; omega) (by omega) hh' (by show A.depth + 1 + 10 + n < recursionLimit; omega) (by show A.units + 3 + 10 * n + 10 < cLine; omega) fun h12 tk12 W ws own2 ep2 k12 Y hmW hw2 => ?_
      obtain ⟨N12, hsep⟩ := news_fresh F11 N11 k12 Y
      have F12 := fr_ext (as := []) F11 (fun _ h => nomatch h) k12
      have N12' : News hp L h12 ((I, riObj (1 + j + 1) (2 * (n + 1) - 1 - j - 1)) :: (S, listOf acc.toArray ep) :: (own ++ own2)) := N12
      refine f_iter_list F12 N12' (PySem.IsL.isList (n := ep2) (Y _ hmW).2) fun I2 h13 oI2 F13 N13 q13 hI2 => ?_
      have hS2 : S ≠ I2 := Nat.ne_of_lt (q13 (S, _) (.tail _ (.head _)))
      have hI12 : I ≠ I2 := Nat.ne_of_lt (q13 (I, _) (.head _))
      let pr : Nat × Nat := (ps.getD 0 0, ps.getD (j + 1) 0)
      let inn := waysN n ((ps.drop 1).take j ++ ps.drop (j + 2))
      refine loop_ruleP hXo1 (fun i s' => Ex7 fun h' tk' l' acc3 own3 ep3 oI => All10 (s' = ⟨h', gs, dr, tk', os⟩) (Fr hp L h' (lk l')) (News hp L h' ((I2, oI) :: (I, riObj (1 + j + 1) (2 * (n + 1) - 1 - j - 1)) :: (S, listOf acc3.toArray ep3) :: own3)) (∀ p ∈ own3, p.1 ≠ I ∧ p.1 ≠ S ∧ p.1 ≠ I2) (∀ p ∈ own ++ own2, p ∈ own3) (LI oI W i) (lk l' (Str.ofString "ways") = some (.ref S)) (lk l' (Str.ofString "points") = some (.ref D)) (lk l' (Str.ofString "k") = some (.int ((1 + j : Nat) : Int) t7)) (WaysK acc3 own3 ((List.range j).flatMap g ++ (inn.take i).map fun way => pr :: way))) inn.length ?h0 ?turn ?done
      case h0 =>
        refine ⟨_, _, _, acc, own ++ own2, ep, oI2, rfl, F13, N13, (fun p hp => ⟨?_, ?_, ?_⟩), (fun p hp => hp), hI2, lk_miss (by kernel_rfl) ls, lk_miss (by kernel_rfl) lp, lk_hit, ?_⟩
        · rcases List.mem_append.mp hp with hp | hp
          · exact (hs p hp).1
          · exact (hsep p hp).1 _ (.head _)
        · rcases List.mem_append.mp hp with hp | hp
          · exact (hs p hp).2
          · exact (hsep p hp).1 _ (.tail _ (.head _))
        · exact Nat.ne_of_lt (q13 p (.tail _ (.tail _ hp)))
        · rw [List.take_zero, List.map_nil, List.append_nil]
          exact hw.sub fun p hp => List.mem_append_left _ hp
      case done =>
        rintro Pd2 Xd2 hPd2 _ ⟨h', tk', l', acc3, own3, ep3, oI, rfl, F', N', hs3, hsub, hIi, ls', lp', lk', hw3⟩
        refine next_list_end hh' F' N' (ne_cons hI12 (ne_cons hS2 (fun p hp => (hs3 p hp).2.2))) hIi (PySem.IsL.isList (n := ep2) (N' (W, _) (.tail _ (.tail _ (.tail _ (hsub _ (List.mem_append_right _ hmW))))) ).1) ?_ fun h14 F14 N14 => ⟨rfl, hPd2 _ ?_⟩
        · rw [List.getElem?_toArray, List.getElem?_eq_none_iff, hw2.1]; exact Nat.le_refl _
        iterate 2 walk1
        refine hPo1 _ _ (lp_next ⟨_, _, _, acc3, own3, ep3, rfl, F14, ?_, (fun p hp => ⟨(hs3 p hp).1, (hs3 p hp).2.1⟩), ls', lp', ?_⟩)
        · rw [show 1 + (j + 1) = 1 + j + 1 by omega, show 2 * (n + 1) - 1 - (j + 1) = 2 * (n + 1) - 1 - j - 1 by omega]
          exact N14
        · rw [List.take_length] at hw3
          rw [List.range_succ, List.flatMap_append, List.flatMap_singleton]
          exact hw3
      case turn =>
        rintro Po2 Xo2 hXo2 i _ hi hPo2 ⟨h', tk', l', acc3, own3, ep3, oI, rfl, F', N', hs3, hsub, hIi, ls', lp', lk', hw3⟩
        obtain ⟨way, hway⟩ : ∃ r, inn[i]? = some r := ⟨_, List.getElem?_eq_getElem hi⟩
        obtain ⟨v, hv, hwK⟩ := hw2.2 i way hway
        refine next_list F' N' (ne_cons hI12 (ne_cons hS2 (fun p hp => (hs3 p hp).2.2))) hIi (PySem.IsL.isList (n := ep2) (N' (W, _) (.tail _ (.tail _ (.tail _ (hsub _ (List.mem_append_right _ hmW))))) ).1) (by rw [List.getElem?_toArray]; exact hv) fun h14 oI4 F14 N14 hI4 => ⟨_, rfl, letGo_name ?_⟩
        obtain ⟨l, us', epw, rfl, hlm, hul', hus'⟩ := hwK
        iterate 28 walk1
        rename_i h15 tk15 F15 N15 ta tb T h16 F16 N16 q16 L1 h17 F17 N17 q17
        rw [getD_map_nat 0, getD_map_nat (1 + j)] at N17
        rw [getD_map_nat 0, getD_map_nat (1 + j)] at q17
        clear N15 F15 F16 N16
        have hl'' := PySem.IsL.isList (n := epw) (N17 (l, _) (.tail _ (.tail _ (.tail _ (.tail _ (.tail _ (hsub _ (List.mem_append_right _ hlm)))))))).1
        have hwl : way.length = n := waysN_len n _ way (List.mem_of_getElem? hway)
        refine f_add_lists F17 N17 (PySem.IsL.isList (n := 0) (N17 (L1, _) (.head _)).1) hl'' (by rw [hul', hwl]; simp; omega) fun R h18 F18 N18 q18 _ => ?_
        have qT : T < R := q18 (T, _) (.tail _ (.head _))
        have qS : S < R := q18 (S, _) (.tail _ (.tail _ (.tail _ (.tail _ (.head _)))))
        have qST : S < T := q16 (S, _) (.tail _ (.tail _ (.head _)))
        have qI : I < R ∧ I < T := ⟨q18 (I, _) (.tail _ (.tail _ (.tail _ (.head _)))), q16 (I, _) (.tail _ (.head _))⟩
        have qI2 : I2 < R ∧ I2 < T := ⟨q18 (I2, _) (.tail _ (.tail _ (.head _))), q16 (I2, _) (.head _)⟩
        replace N18 : News hp L h18 ((R, listOf ([Value.ref T] ++ us').toArray 0) :: (T, tupOf #[.int (ps.getD 0 0 : Nat) ta, .int (ps.getD (1 + j) 0 : Nat) tb]) :: (I2, oI4) :: (I, riObj (1 + j + 1) (2 * (n + 1) - 1 - j - 1)) :: (S, listOf acc3.toArray ep3) :: own3) := news_cons (N18 _ (.head _)) (fun p hp => N18 p (.tail _ (.tail _ hp)))
        clear q16 q17 N17 F17 q18
        walk1
        refine f_append F18 N18 (.tail (Nat.ne_of_gt qS) (.tail (Nat.ne_of_gt qST) (.tail hS2.symm (.tail hSI.symm (.head fun p hp => (hs3 p hp).2.1))))) (fun h19 F19 N19 => ?_) ?hsz
        case hsz =>
          have b1 := flatMap_len (f := g) (B := 6 ^ n) (l := List.range j) fun k hk => by
            show (List.map _ (waysN n _)).length ≤ _
            rw [List.length_map]
            refine waysN_cnt n _ (by omega) ?_
            have := List.mem_range.mp hk
            simp
            omega
          have b2 : inn.length ≤ 6 ^ n := waysN_cnt n _ (by omega) (by simp; omega)
          have b3 : 6 ^ n ≤ 6 ^ 3 := Nat.pow_le_pow_right (by decide) (by omega)
          have b4 := Nat.mul_le_mul (show j ≤ 5 by omega) b3
          have b5 := hw3.1
          rw [List.length_append, List.length_map, List.length_take] at b5
          rw [List.length_range] at b1
          rw [List.size_toArray, b5]
          omega
        iterate 2 walk1
        have e19 : (acc3.toArray.push (Value.ref R)) = (acc3 ++ [Value.ref R]).toArray := by simp
        rw [e19] at N19
        refine hPo2 _ _ (lp_next ⟨_, _, _, acc3 ++ [Value.ref R], (R, listOf ([Value.ref T] ++ us').toArray 0) :: (T, tupOf #[.int (ps.getD 0 0 : Nat) ta, .int (ps.getD (1 + j) 0 : Nat) tb]) :: own3, ep3 + 1, oI4, rfl, F19, ?_, ?_, (fun p hp => .tail _ (.tail _ (hsub p hp))), hI4, lk_miss (by kernel_rfl) ls', lk_miss (by kernel_rfl) lp', lk_miss (by kernel_rfl) lk', ?_⟩)
        · intro p hp
          rcases List.mem_cons.mp hp with rfl | hp
          · exact N19 _ (.tail _ (.tail _ (.head _)))
          rcases List.mem_cons.mp hp with rfl | hp
          · exact N19 _ (.tail _ (.tail _ (.tail _ (.head _))))
          rcases List.mem_cons.mp hp with rfl | hp
          · exact N19 _ (.tail _ (.tail _ (.tail _ (.tail _ (.head _)))))
          rcases List.mem_cons.mp hp with rfl | hp
          · exact N19 _ (.head _)
          rcases List.mem_cons.mp hp with rfl | hp
          · exact N19 _ (.tail _ (.head _))
          · exact N19 _ (.tail _ (.tail _ (.tail _ (.tail _ (.tail _ hp)))))
        · intro p hp
          rcases List.mem_cons.mp hp with rfl | hp
          · exact ⟨Nat.ne_of_gt qI.1, Nat.ne_of_gt qS, Nat.ne_of_gt qI2.1⟩
          rcases List.mem_cons.mp hp with rfl | hp
          · exact ⟨Nat.ne_of_gt qI.2, Nat.ne_of_gt qST, Nat.ne_of_gt qI2.2⟩
          · exact hs3 p hp
        · rw [List.take_add_one, hway, List.map_append, ← List.append_assoc]
          refine WaysK.push (hw3.sub fun p hp => .tail _ (.tail _ hp)) ?_
          refine ⟨R, _, 0, rfl, .head _, congrArg (· + 1) hul', fun i pq e => ?_⟩
          cases i with
          | zero =>
            cases e
            have ej : (pr.2 : Nat) = ps.getD (1 + j) 0 := by show ps.getD (j + 1) 0 = _; rw [Nat.add_comm]
            rw [ej]
            exact ⟨T, ta, tb, rfl, .tail _ (.head _)⟩
          | succ i =>
            obtain ⟨t, t1, t2, e1, m⟩ := hus' i pq e
            exact ⟨t, t1, t2, e1, .tail _ (.tail _ (hsub _ (List.mem_append_right _ m)))⟩
end Mine
end
section
theorem Mine.freshT30 : True := by
  w_top off
  trivial
namespace Mine
variable {w : World} {mg mb : Str → Option Value}
/-- the environment of a comprehension -/
@[irreducible] def envK (sc : Scope) (cl : List (Str × Addr)) (C : Addr) (env : Env) : Env := { scope := sc, locals := C, globals := env.globals, cells := cl, qual := env.qual, func := none, code := env.code, frame := env.frame, builtins := env.builtins }
theorem envK_eq (sc : Scope) (cl : List (Str × Addr)) (C : Addr) (env : Env) : envK sc cl C env = { scope := sc, locals := C, globals := env.globals, cells := cl, qual := env.qual, func := none, code := env.code, frame := env.frame, builtins := env.builtins } := by unfold envK; rfl
section
variable {prog : Program} {A : Around} {E : Value → Shared → Prop} {hp : Heap} {gs : Array GenState} {dr : Drawn} {tk : Nat} {os : OsState} {h₀ : Heap} {C c : Addr} {o : Obj} {l : List (Str × Value)} {news : List (Addr × Obj)} {sc : Scope} {cl : List (Str × Addr)} {env : Env} {x : Str} {pos : Pos} {v : Value} {Q : Value → Shared → Prop}
theorem nmK_loc (F : Fr h₀ C hp (lk l)) (hp' : plainS sc = true) (hk : kindS sc x = some .local) (hd : (x == ("__debug__" : Str)) = false) (hv : lk l x = some v) (h : Q v ⟨hp, gs, dr, tk, os⟩) :
    wpAny (model prog w) A (eval (.Name x pos) (envK sc cl C env)) Q E ⟨hp, gs, dr, tk, os⟩ := by
  rw [envK_eq]
  exact wpAny_Name (wpAny_loadName_local (kind_S hp') hk F.ns hv h) hd
theorem stK {Q : Unit → Shared → Prop} (F : Fr h₀ C hp (lk l)) (N : News h₀ C hp news) (hp' : plainS sc = true) (hk : kindS sc x = some .local)
    (h : ∀ h' tk', Fr h₀ C h' (lk ((x, v) :: l)) → News h₀ C h' news → Q () ⟨h', gs, dr, tk', os⟩) : wpAny (model prog w) A (storeName (envK sc cl C env) x v) Q E ⟨hp, gs, dr, tk, os⟩ := by
  rw [envK_eq]
  refine wpAny_storeName_local hk F.ns (fun h' hn hs => ?_) (by rw [kind_S hp']; rfl)
  rw [lk_put] at hn
  exact h h' _ (F.set hn hs) (N.set hs)
end
section
variable {prog : Program} {A : Around} {E : Value → Shared → Prop} {env : Env} {elt target iter : Expr} {ifs : List Expr} {scope : Scope} {pos : Pos} {cl : List (Str × Addr)}
/-- the tests of a comprehension -/
def CompIfs (M : Model) (A : Around) (cenv : Env) (ifs : List Expr) (K K' : Shared → Prop) (E : Value → Shared → Prop) (s : Shared) : Prop := match ifs with
  | [] => K s
  | [c] => wpAny M A (isTrue c cenv (eval c cenv)) (fun b s' => if b = true then K s' else K' s') E s
  | _ => False
theorem compTurn_ifs (target iter : Expr) (it acc : Value) (cenv : Env) :
    compTurn (.ListComp elt [⟨target, iter, ifs, 0⟩] scope pos) 0 it acc cenv = (standAt iter.pos >>= fun _ => pyNext it >>= fun r => match r with
      | none => pure (.done .next)
      | some v => letOwnedTupleGo target it v >>= fun _ => assign target cenv v >>= fun _ =>
        (forIn ifs true fun c r => if r = true then do let ok ← isTrue c cenv (eval c cenv); pure (ForInStep.yield ok) else pure (ForInStep.yield r)) >>= fun ok =>
          if ok = true then (eval elt cenv >>= fun x => call (.builtin "list.append") [acc, x] >>= fun _ => pure ()) >>= fun _ => again (.compLoop (.ListComp elt [⟨target, iter, ifs, 0⟩] scope pos) 0 it acc cenv)
          else again (.compLoop (.ListComp elt [⟨target, iter, ifs, 0⟩] scope pos) 0 it acc cenv)) := compTurn_list ..
/-- what a turn of a comprehension does -/
def CompTurn (M : Model) (A : Around) (cenv : Env) (elt target : Expr) (ifs : List Expr) (I D : Addr) (K : Shared → Prop) (E : Value → Shared → Prop) (s : Shared) : Prop :=
  wpAny M A (pyNext (.ref I)) (fun r s₁ => ∃ v, r = some v ∧ wpAny M A (letOwnedTupleGo target (.ref I) v) (fun _ s₂ => wpAny M A (assign target cenv v) (fun _ s₃ =>
    CompIfs M A cenv ifs (fun s₄ => wpAny M A (eval elt cenv) (fun x s₅ => wpAny M A (call (.builtin "list.append") [.ref D, x]) (fun _ s₆ => K s₆) E s₅) E s₄) K E s₃) E s₂) E s₁) E s
theorem comp_loop {I D : Addr} {cenv : Env} {R : Result → Shared → Prop} {s : Shared} (J : Nat → Shared → Prop) (n : Nat) (h0 : J 0 s)
    (turn : ∀ E' i s', i < n → J i s' → CompTurn (model prog w) A cenv elt target ifs I D (J (i + 1)) E' s')
    (done : ∀ E' s', J n s' → wpAny (model prog w) A (pyNext (.ref I)) (fun r s₁ => r = none ∧ R (.ok .next) s₁) E' s') :
    codeAny (model prog w) A (.compLoop (.ListComp elt [⟨target, iter, ifs, 0⟩] scope pos) 0 (.ref I) (.ref D) cenv) R s := by
  refine codeAny_loop rfl (fun k s' => ∃ i, k = n - i ∧ i ≤ n ∧ J i s') ?_ n ⟨0, rfl, Nat.zero_le _, h0⟩
  rintro k s' ⟨i, rfl, hi, hJ⟩
  show wpAny _ A ((compTurn (.ListComp elt [⟨target, iter, ifs, 0⟩] scope pos) 0 (.ref I) (.ref D) cenv).onRaise (fun x => do noteFrame x cenv; theTreesLotGoes x)) _ _ s'
  refine wpAny_noted ?_
  rw [compTurn_ifs]
  refine wpAny_bind (wpAny_standAt (wpAny_bind ?_))
  by_cases hlt : i < n
  · refine wpAny_mono (turn _ i s' hlt hJ) (fun r s₁ h₁ => ?_) fun _ _ x => x
    obtain ⟨v, rfl, h₁⟩ := h₁
    refine wpAny_bind (wpAny_mono h₁ (fun _ s₂ h₂ => wpAny_bind (wpAny_mono h₂ (fun _ s₃ h₃ => wpAny_bind ?_) fun _ _ x => x)) fun _ _ x => x)
    have next : ∀ s₆, J (i + 1) s₆ → ∃ m, m < n - i ∧ ∃ j, m = n - j ∧ j ≤ n ∧ J j s₆ := fun s₆ h => ⟨n - (i + 1), by omega, i + 1, rfl, hlt, h⟩
    match ifs, h₃ with
    | [], h₃ =>
      rw [List.forIn_nil]
      refine wpAny_pure ?_
      rw [if_pos rfl]
      exact wpAny_bind (wpAny_bind (wpAny_mono h₃ (fun x s₄ h₄ => wpAny_bind (wpAny_mono h₄ (fun _ s₅ h₅ => wpAny_pure (wpAny_pure ⟨rfl, next _ h₅⟩)) fun _ _ h' => h')) fun _ _ h' => h'))
    | [c], h₃ =>
      rw [List.forIn_cons]
      rw [if_pos rfl]
      refine wpAny_bind (wpAny_bind (wpAny_mono h₃ (fun b s₄ h₄ => ?_) fun _ _ x => x))
      refine wpAny_pure ?_
      show wpAny _ _ (forIn [] b _) _ _ _
      rw [List.forIn_nil]
      refine wpAny_pure ?_
      cases b with
      | false =>
        rw [if_neg (by decide)] at h₄ ⊢
        exact wpAny_pure ⟨rfl, next _ h₄⟩
      | true =>
        rw [if_pos rfl] at h₄ ⊢
        exact wpAny_bind (wpAny_bind (wpAny_mono h₄ (fun x s₄ h₄ => wpAny_bind (wpAny_mono h₄ (fun _ s₅ h₅ => wpAny_pure (wpAny_pure ⟨rfl, next _ h₅⟩)) fun _ _ h' => h')) fun _ _ h' => h'))
  · have e : i = n := by omega
    subst e
    refine wpAny_mono (done _ s' hJ) (fun r s₁ h₁ => ?_) fun _ _ x => x
    obtain ⟨rfl, h₁⟩ := h₁
    exact wpAny_pure h₁
/-- from the iterator on -/
theorem comp_go {hp : Heap} {gs : Array GenState} {dr : Drawn} {tk : Nat} {os : OsState} {I : Addr} {oI : Obj} {RR : Value → Addr → Result → Shared → Prop} (hcell : ∀ y ∈ scope.names, y.2 ≠ .cell) (hkind : scope.kind = .function) (hI : hp.get? I = some oI)
    (hself : ∀ s' Q' E', s'.heap.get? I = some oI → Q' (.ref I) s' → wpAny (model prog w) A (pyIter (.ref I)) Q' E' s') (n : Nat)
    (J : Addr → Addr → Nat → Shared → Prop)
    (h0 : ∀ D C h₁ tk₁, Fr (hideAll hp [I]) C h₁ (lk []) → News (hideAll hp [I]) C h₁ [(D, listOf #[] 0), (I, oI)] → I < D → D < C → hp.get? D = none → hp.get? C = none → J D C 0 ⟨h₁, gs, dr, tk₁, os⟩)
    (turn : ∀ E' D C i s', i < n → J D C i s' → CompTurn (model prog w) A (envK (relabel scope env) cl C env) elt target ifs I D (J D C (i + 1)) E' s')
    (done : ∀ E' D C s', J D C n s' → wpAny (model prog w) A (pyNext (.ref I)) (fun r s₁ => r = none ∧ RR (.ref D) C (.ok .next) s₁) E' s') :
    wpAny (model prog w) A (newList []) (fun acc s₃ => wpAny (model prog w) A (newFunctionEnv scope env.globals cl [] env.qual none .none (some env)) (fun cenv s₄ =>
      codeAny (model prog w) A (.compStart (.ListComp elt [⟨target, iter, ifs, 0⟩] scope pos) 0 (.ref I) acc { cenv with scope := relabel scope env }) (RR acc cenv.locals) s₄) E s₃) E ⟨hp, gs, dr, tk, os⟩ := by
  refine wpAny_newObj_type (wpAny_newFunctionEnv hcell (by intro y hy; simp at hy) (fun h₁ hns₁ hsb₁ => ?_) hkind)
  dsimp only at hns₁ hsb₁ ⊢
  generalize hH2 : hp.push { cls := .type "list", dict := none, data := .seq ([] : List Value).toArray } = H2 at hns₁ hsb₁ ⊢
  have hC : H2.objs.size = hp.objs.size + 1 := by rw [← hH2, Heap.size_push]
  have hDC : hp.objs.size < H2.objs.size := by rw [hC]; exact Nat.lt_succ_self _
  have old : ∀ b o, H2.get? b = some o → h₁.get? b = some o := fun b o e => hsb₁.extBut b o (Nat.ne_of_lt (Heap.lt_size e)) (Heap.get?_push_of_some _ e)
  have old' : ∀ b o, hp.get? b = some o → h₁.get? b = some o := fun b o e => old b o (hH2 ▸ Heap.get?_push_of_some _ e)
  have hID : I < hp.objs.size := Heap.lt_size hI
  have hD : hp.get? hp.objs.size = none := Heap.get?_none_of_le (Nat.le_refl _)
  have hCn : hp.get? H2.objs.size = none := Heap.get?_none_of_le (Nat.le_of_lt hDC)
  have base : ∀ a, hp.get? a = none → (hideAll hp [I]).get? a = none := fun a e => by
    cases q : (hideAll hp [I]).get? a with
    | none => rfl
    | some o => have := of_hideAll _ q; rw [e] at this; cases this
  have F : Fr (hideAll hp [I]) H2.objs.size h₁ (lk []) := ⟨by rw [lk_nil]; exact hns₁, fun b o e => old' b o (of_hideAll _ e), by rw [hideAll_size]; exact Nat.le_of_lt hDC⟩
  have N : News (hideAll hp [I]) H2.objs.size h₁ [(hp.objs.size, listOf #[] 0), (I, oI)] := by
    intro p hp'
    rcases List.mem_cons.mp hp' with rfl | hp'
    · exact ⟨old _ _ (hH2 ▸ Heap.get?_push_size _ rfl), Nat.ne_of_lt hDC, base _ hD⟩
    · rw [List.mem_singleton.mp hp']
      exact ⟨old' _ _ hI, Nat.ne_of_lt (Nat.lt_trans hID hDC), hideAll_none _ (.head _)⟩
  have loop : codeAny (model prog w) A (.compLoop (.ListComp elt [⟨target, iter, ifs, 0⟩] scope pos) 0 (.ref I) (.ref hp.objs.size) (envK (relabel scope env) cl H2.objs.size env)) (RR (.ref hp.objs.size) H2.objs.size) ⟨h₁, gs, dr, tk + ([] : List (Str × Value)).length, os⟩ :=
    comp_loop (J hp.objs.size H2.objs.size) n (h0 _ _ _ _ F N hID hDC hD hCn) (fun E' i s' => turn E' _ _ i s') fun E' s' => done E' _ _ s'
  rw [envK_eq] at loop
  exact codeAny_compStart_list loop (hself _ _ _ (old' _ _ hI) loop)
/-- the same, with what comes behind it out of sight -/
theorem comp_goP {hp : Heap} {gs : Array GenState} {dr : Drawn} {tk : Nat} {os : OsState} {I : Addr} {oI : Obj} {RR : Value → Addr → Result → Shared → Prop} (hcell : ∀ y ∈ scope.names, y.2 ≠ .cell) (hkind : scope.kind = .function) (hI : hp.get? I = some oI)
    (hself : ∀ s' Q' E', s'.heap.get? I = some oI → Q' (.ref I) s' → wpAny (model prog w) A (pyIter (.ref I)) Q' E' s') (n : Nat)
    (J : Addr → Addr → Nat → Shared → Prop)
    (h0 : ∀ D C h₁ tk₁, Fr (hideAll hp [I]) C h₁ (lk []) → News (hideAll hp [I]) C h₁ [(D, listOf #[] 0), (I, oI)] → I < D → D < C → hp.get? D = none → hp.get? C = none → J D C 0 ⟨h₁, gs, dr, tk₁, os⟩)
    (turn : ∀ E' D C (K : Shared → Prop) i s', i < n → (∀ s₁, J D C (i + 1) s₁ → K s₁) → J D C i s' → CompTurn (model prog w) A (envK (relabel scope env) cl C env) elt target ifs I D K E' s')
    (done : ∀ E' D C (K : Shared → Prop), (∀ s₁, RR (.ref D) C (.ok .next) s₁ → K s₁) → ∀ s', J D C n s' → wpAny (model prog w) A (pyNext (.ref I)) (fun r s₁ => r = none ∧ K s₁) E' s') :
    wpAny (model prog w) A (newList []) (fun acc s₃ => wpAny (model prog w) A (newFunctionEnv scope env.globals cl [] env.qual none .none (some env)) (fun cenv s₄ =>
      codeAny (model prog w) A (.compStart (.ListComp elt [⟨target, iter, ifs, 0⟩] scope pos) 0 (.ref I) acc { cenv with scope := relabel scope env }) (RR acc cenv.locals) s₄) E s₃) E ⟨hp, gs, dr, tk, os⟩ :=
  comp_go hcell hkind hI hself n J h0 (fun E' D C i s' hi hJ => turn E' D C (J D C (i + 1)) i s' hi (fun _ q => q) hJ) fun E' D C s' hJ => done E' D C (RR (.ref D) C (.ok .next)) (fun _ q => q) s' hJ
def CompGo (M : Model) (A : Around) (env : Env) (elt target iter : Expr) (ifs : List Expr) (scope : Scope) (pos : Pos) (cl : List (Str × Addr)) (RR : Value → Addr → Result → Shared → Prop) (E : Value → Shared → Prop) (it : Value) (s : Shared) : Prop :=
  wpAny M A (newList []) (fun acc s₃ => wpAny M A (newFunctionEnv scope env.globals cl [] env.qual none .none (some env)) (fun cenv s₄ =>
      codeAny M A (.compStart (.ListComp elt [⟨target, iter, ifs, 0⟩] scope pos) 0 it acc { cenv with scope := relabel scope env }) (RR acc cenv.locals) s₄) E s₃) E s
theorem f_comp {s : Shared} {Q : Value → Shared → Prop} (cl : List (Str × Addr)) (hs : ∀ x, foldedSetIterable iter env x = pure x) (hclos : closureFor scope env = pure cl) (hkind : scope.kind = .function) (hnames : ∀ x ∈ scope.names, x.2 = .local → scope.names.lookup x.1 = some .local)
    (h : wpAny (model prog w) A (eval iter env) (fun x s₁ => wpAny (model prog w) A (pyIter x) (CompGo (model prog w) A env elt target iter ifs scope pos cl (compPost (model prog w) A E none Q) E) E s₁) E s) :
    wpAny (model prog w) A (eval (.ListComp elt [⟨target, iter, ifs, 0⟩] scope pos) env) Q E s := by
  rw [eval_ListComp]
  exact wpAny_comprehension_free (use := none) rfl hs hclos hkind hnames h
theorem f_assign_comp {s : Shared} {Q : Flow → Shared → Prop} {y : Str} {py spos : Pos} (cl : List (Str × Addr)) (hsw : swapsWith (.ListComp elt [⟨target, iter, ifs, 0⟩] scope pos) (some (.Name y py)) spos.line env = pure true) (hs : ∀ x, foldedSetIterable iter env x = pure x) (hclos : closureFor scope env = pure cl) (hkind : scope.kind = .function) (hnames : ∀ x ∈ scope.names, x.2 = .local → scope.names.lookup x.1 = some .local)
    (h : wpAny (model prog w) A (eval iter env) (fun x s₁ => wpAny (model prog w) A (pyIter x) (CompGo (model prog w) A env elt target iter ifs scope pos cl (compPost (model prog w) A E (some (assign (.Name y py) env)) (fun _ s' => Q .next s')) E) E s₁) E s) :
    wpAny (model prog w) A (exec (.Assign [.Name y py] (.ListComp elt [⟨target, iter, ifs, 0⟩] scope pos) spos) env) Q E s := by
  rw [exec_Assign_Name_used _ _ _ _ hsw]
  refine wpAny_bind (wpAny_standAt (wpAny_bind ?_))
  show wpAny _ A (do let _ ← comprehension (.ListComp elt [⟨target, iter, ifs, 0⟩] scope pos) scope env _ (newList []) false (eval iter env) (some (assign (.Name y py) env))) _ _ s
  exact wpAny_bind (wpAny_mono (wpAny_comprehension_free (use := some (assign (.Name y py) env)) (Q := fun _ s' => Q .next s') rfl hs hclos hkind hnames h) (fun _ s' hq => wpAny_pure (wpAny_pure hq)) fun _ _ e => e)
end
section
variable {hp h' : Heap} {I C D : Addr} {m : Str → Option Value} {own : List (Addr × Obj)}
theorem comp_ext (F : Fr (hideAll hp [I]) C h' m) (hC : hp.get? C = none) {h'' : Heap} (hs : Heap.SameBut C h' h'') : Ext [I] hp h'' := fun b o hb e =>
  hs.extBut b o (fun q => by rw [q, hC] at e; cases e) (F.keep _ _ (hideAll_get _ e hb))
theorem comp_fresh (N : News (hideAll hp [I]) C h' own) (hI : ∀ p ∈ own, p.1 ≠ I) {h'' : Heap} (hs : Heap.SameBut C h' h'') : Fresh hp h'' own := fun p hp' => by
  have z := N p hp'
  refine ⟨?_, hs.extBut _ _ z.2.1 z.1⟩
  cases q : hp.get? p.1 with
  | none => rfl
  | some o => have := hideAll_get [I] q (fun k => hI p hp' (List.mem_singleton.mp k)); rw [z.2.2] at this; cases this
/-- the caller's ledger behind a comprehension -/
theorem comp_back {h₀ : Heap} {L : Addr} {mL : Str → Option Value} {oI : Obj} {news : List (Addr × Obj)} (F : Fr h₀ L hp mL) (N : News h₀ L hp ((I, oI) :: news)) (hne : ∀ p ∈ news, p.1 ≠ I) (k : Ext [I] hp h') (Y : Fresh hp h' own) :
    Fr h₀ L h' mL ∧ News h₀ L h' (own ++ news) := by
  have z := N _ (.head _)
  have hL : ∃ o, hp.get? L = some o := let ⟨o, _, _, e, _⟩ := F.ns; ⟨o, e⟩
  obtain ⟨oL, eL⟩ := hL
  refine ⟨fr_ext F (fun a ha => by rw [List.mem_singleton.mp ha]; exact z.2) k, fun p hp' => ?_⟩
  rcases List.mem_append.mp hp' with q | q
  · refine ⟨(Y p q).2, fun e => ?_, ?_⟩
    · have := (Y p q).1; rw [e, eL] at this; cases this
    · cases e : h₀.get? p.1 with
      | none => rfl
      | some o => have := F.keep _ _ e; rw [(Y p q).1] at this; cases this
  · exact ⟨k _ _ (fun e => hne p q (List.mem_singleton.mp e)) (N p (.tail _ q)).1, (N p (.tail _ q)).2⟩
end
section
variable {prog : Program} {A : Around} {E : Value → Shared → Prop} {hp h' : Heap} {gs : Array GenState} {dr : Drawn} {tk : Nat} {os : OsState} {I C D L f : Addr} {h₀ : Heap} {oI : Obj} {l l₀ : List (Str × Value)} {own news : List (Addr × Obj)} {sc : Scope} {nm : Str} {cd : Value} {cl : List (Str × Addr)}
theorem comp_end {Q : Value → Shared → Prop} (F₀ : Fr h₀ L hp (lk l₀)) (N₀ : News h₀ L hp ((I, oI) :: news)) (hne : ∀ p ∈ news, p.1 ≠ I) (F : Fr (hideAll hp [I]) C h' (lk l)) (N : News (hideAll hp [I]) C h' own) (hI : ∀ p ∈ own, p.1 ≠ I) (hC : hp.get? C = none)
    (h : ∀ h₃, Fr h₀ L h₃ (lk l₀) → News h₀ L h₃ (own ++ news) → Q (.ref D) ⟨h₃, gs, dr, tk, os⟩) : compPost (model prog w) A E none Q (.ref D) C (.ok .next) ⟨h', gs, dr, tk, os⟩ := by
  refine ⟨_, F.ns, fun h'' hs => ?_⟩
  obtain ⟨a, b⟩ := comp_back F₀ N₀ hne (comp_ext F hC hs) (comp_fresh N hI hs)
  exact h h'' a b
theorem comp_end_st {Q : Value → Shared → Prop} {y : Str} {py : Pos} (F₀ : Fr h₀ L hp (lk l₀)) (N₀ : News h₀ L hp ((I, oI) :: news)) (hne : ∀ p ∈ news, p.1 ≠ I) (F : Fr (hideAll hp [I]) C h' (lk l)) (N : News (hideAll hp [I]) C h' own) (hI : ∀ p ∈ own, p.1 ≠ I) (hC : hp.get? C = none)
    (hpl : plainS sc = true) (hk : kindS sc y = some .local)
    (h : ∀ h₃ tk', Fr h₀ L h₃ (lk ((y, .ref D) :: l₀)) → News h₀ L h₃ (own ++ news) → Q .none ⟨h₃, gs, dr, tk', os⟩) : compPost (model prog w) A E (some (assign (.Name y py) (envG nm sc L f cd cl))) Q (.ref D) C (.ok .next) ⟨h', gs, dr, tk, os⟩ := by
  obtain ⟨a, b⟩ := comp_back F₀ N₀ hne (comp_ext F hC (Heap.SameBut.refl ..)) (comp_fresh N hI (Heap.SameBut.refl ..))
  obtain ⟨oC, es, ep, eC, r⟩ := id F.ns
  have zL : ∃ o, hp.get? L = some o := let ⟨o, _, _, e, _⟩ := F₀.ns; ⟨o, e⟩
  obtain ⟨oL, eL⟩ := zL
  have hCL : C ≠ L := fun e => by rw [e, eL] at hC; cases hC
  have hC0 : h₀.get? C = none := by
    cases e : h₀.get? C with
    | none => rfl
    | some o => have := F₀.keep _ _ e; rw [hC] at this; cases this
  have hnC : ∀ p ∈ own ++ news, p.1 ≠ C := fun p hp' e => by
    rcases List.mem_append.mp hp' with q | q
    · exact (N p q).2.1 e
    · have := (N₀ p (.tail _ q)).1; rw [e, hC] at this; cases this
  have N2 : News h₀ L h' ((C, oC) :: (own ++ news)) := fun p hp' => by
    rcases List.mem_cons.mp hp' with rfl | q
    · exact ⟨eC, hCL, hC0⟩
    · exact b p q
  show wpAny _ A (assign (.Name y py) _ (.ref D)) _ _ _
  refine assign_Name (f_st a N2 hpl hk fun h₂ tk₂ F₂ N₃ => ?_)
  refine ⟨_, ⟨oC, es, ep, (N₃ (C, oC) (.head _)).1, r⟩, fun h₃ hs => ?_⟩
  have k : Ext [C] h₂ h₃ := fun b o hb e => hs.extBut b o (fun q => hb (List.mem_singleton.mpr q)) e
  exact h h₃ _ (fr_ext F₂ (fun a ha => by rw [List.mem_singleton.mp ha]; exact ⟨hCL, hC0⟩) k) (news_ext N₃ k fun p hp' => .inl ⟨.tail _ hp', fun q => hnC p hp' (List.mem_singleton.mp q)⟩)
end
end Mine
end
section
theorem Mine.freshT32 : True := by
  w_top off
  trivial
namespace Mine
variable {w : World} {mg mb : Str → Option Value}
section
variable {prog : Program} {A : Around} {E : Value → Shared → Prop} {env : Env} {elt t0 t1 it0 it1 : Expr} {scope : Scope} {pos : Pos} {cl : List (Str × Addr)}
theorem nmK_blt {hp : Heap} {gs : Array GenState} {dr : Drawn} {tk : Nat} {os : OsState} {h₀ : Heap} {C L f : Addr} {l : List (Str × Value)} {sc sc₀ : Scope} {cl₀ : List (Str × Addr)} {nm x : Str} {cd v : Value} {p : Pos} {Q : Value → Shared → Prop} (F : Fr h₀ C hp (lk l)) (G : Gl w mg mb h₀) (hp' : plainS sc = true) (hk : kindS sc x = some .globalImplicit) (hd : (x == ("__debug__" : Str)) = false)
    (hm : nsIn (KF w) mainGlobals x = some none) (hb : bootBuiltins x = some v) (hn : x ≠ "__name__") (h : Q v ⟨hp, gs, dr, tk, os⟩) : wpAny (model prog w) A (eval (.Name x p) (envK sc cl C (envG nm sc₀ L f cd cl₀))) Q E ⟨hp, gs, dr, tk, os⟩ := by
  rw [envG_eq, envK_eq]
  exact Calls.Name_function_global (kind_S hp') hk (Calls.loadGlobal_builtin (G.g.keeps F.keep) (mg_none_of G.X G.g hm) (G.b.keeps F.keep) ((G.builtins x hn).trans hb) h) hd
/-- one that the caller made is hidden -/
theorem Gl.hide1 {h h₀ : Heap} {I : Addr} {o : Obj} (G : Gl w mg mb h₀) (k : ∀ b o, h₀.get? b = some o → h.get? b = some o) (hI : h₀.get? I = none) (hh : h.get? I = some o) (h1 : ∀ es n, o.data ≠ .dict es n) (h2 : o.data ≠ .plain) : Gl w mg mb (hideAll h [I]) := by
  refine (G.keeps k).but (as := [I]) (fun D hD => ?_) fun b o hb e => hideAll_get [I] e hb
  rw [List.mem_singleton.mp hD]
  refine ⟨?_, o, hh, h1, h2⟩
  cases e : (KF w).lookup I with
  | none => rfl
  | some o' => have := G.X I o' e; rw [hI] at this; cases this
theorem compTurn_out (it acc : Value) (cenv : Env) :
    compTurn (.ListComp elt [⟨t0, it0, [], 0⟩, ⟨t1, it1, [], 0⟩] scope pos) 0 it acc cenv = (standAt it0.pos >>= fun _ => pyNext it >>= fun r => match r with
      | none => pure (.done .next)
      | some v => letOwnedTupleGo t0 it v >>= fun _ => assign t0 cenv v >>= fun _ =>
        (eval it1 cenv >>= fun x => standAt it1.pos >>= fun _ => foldedSetIterable it1 cenv x >>= fun x => holding [x] (pyIter x) >>= fun y => runOwn (.compStart (.ListComp elt [⟨t0, it0, [], 0⟩, ⟨t1, it1, [], 0⟩] scope pos) 1 y acc cenv) cenv >>= fun _ =>
          again (.compLoop (.ListComp elt [⟨t0, it0, [], 0⟩, ⟨t1, it1, [], 0⟩] scope pos) 0 it acc cenv))) := by rfl
theorem compTurn_in (it acc : Value) (cenv : Env) :
    compTurn (.ListComp elt [⟨t0, it0, [], 0⟩, ⟨t1, it1, [], 0⟩] scope pos) 1 it acc cenv = (standAt it1.pos >>= fun _ => pyNext it >>= fun r => match r with
      | none => pure (.done .next)
      | some v => letOwnedTupleGo t1 it v >>= fun _ => assign t1 cenv v >>= fun _ =>
        (eval elt cenv >>= fun x => call (.builtin "list.append") [acc, x] >>= fun _ => pure ()) >>= fun _ =>
          again (.compLoop (.ListComp elt [⟨t0, it0, [], 0⟩, ⟨t1, it1, [], 0⟩] scope pos) 1 it acc cenv)) := by rfl
/-- the inner loop -/
theorem comp_in {I D : Addr} {cenv : Env} {R : Result → Shared → Prop} {s : Shared} (J : Nat → Shared → Prop) (n : Nat) (h0 : J 0 s)
    (turn : ∀ E' i s', i < n → J i s' → CompTurn (model prog w) A cenv elt t1 [] I D (J (i + 1)) E' s')
    (done : ∀ E' s', J n s' → wpAny (model prog w) A (pyNext (.ref I)) (fun r s₁ => r = none ∧ R (.ok .next) s₁) E' s') :
    codeAny (model prog w) A (.compLoop (.ListComp elt [⟨t0, it0, [], 0⟩, ⟨t1, it1, [], 0⟩] scope pos) 1 (.ref I) (.ref D) cenv) R s := by
  refine codeAny_loop rfl (fun k s' => ∃ i, k = n - i ∧ i ≤ n ∧ J i s') ?_ n ⟨0, rfl, Nat.zero_le _, h0⟩
  rintro k s' ⟨i, rfl, hi, hJ⟩
  show wpAny _ A ((compTurn (.ListComp elt [⟨t0, it0, [], 0⟩, ⟨t1, it1, [], 0⟩] scope pos) 1 (.ref I) (.ref D) cenv).onRaise (fun x => do noteFrame x cenv; theTreesLotGoes x)) _ _ s'
  refine wpAny_noted ?_
  rw [compTurn_in]
  refine wpAny_bind (wpAny_standAt (wpAny_bind ?_))
  by_cases hlt : i < n
  · refine wpAny_mono (turn _ i s' hlt hJ) (fun r s₁ h₁ => ?_) fun _ _ x => x
    obtain ⟨v, rfl, h₁⟩ := h₁
    refine wpAny_bind (wpAny_mono h₁ (fun _ s₂ h₂ => wpAny_bind (wpAny_mono h₂ (fun _ s₃ h₃ => wpAny_bind ?_) fun _ _ x => x)) fun _ _ x => x)
    have h₃' : wpAny (model prog w) A (eval elt cenv) _ _ s₃ := h₃
    exact wpAny_bind (wpAny_mono h₃' (fun x s₄ h₄ => wpAny_bind (wpAny_mono h₄ (fun _ s₅ h₅ => wpAny_pure (wpAny_pure ⟨rfl, n - (i + 1), by omega, i + 1, rfl, hlt, h₅⟩)) fun _ _ h' => h')) fun _ _ h' => h')
  · have e : i = n := by omega
    subst e
    refine wpAny_mono (done _ s' hJ) (fun r s₁ h₁ => ?_) fun _ _ x => x
    obtain ⟨rfl, h₁⟩ := h₁
    exact wpAny_pure h₁
theorem comp_in_start {it acc : Value} {cenv : Env} {R : Result → Shared → Prop} {s : Shared} (h0 : codeAny (model prog w) A (.compLoop (.ListComp elt [⟨t0, it0, [], 0⟩, ⟨t1, it1, [], 0⟩] scope pos) 1 it acc cenv) R s)
    (h : ∀ E', wpAny (model prog w) A (pyIter it) (fun it' s' => codeAny (model prog w) A (.compLoop (.ListComp elt [⟨t0, it0, [], 0⟩, ⟨t1, it1, [], 0⟩] scope pos) 1 it' acc cenv) R s') E' s) :
    codeAny (model prog w) A (.compStart (.ListComp elt [⟨t0, it0, [], 0⟩, ⟨t1, it1, [], 0⟩] scope pos) 1 it acc cenv) R s := by
  refine codeAny_of_tree ?_
  show wpAny _ _ ((compStart (.ListComp elt [⟨t0, it0, [], 0⟩, ⟨t1, it1, [], 0⟩] scope pos) 1 it acc cenv).onRaise (fun x => do noteFrame x cenv; standAt theWindowsPlace)) _ _ s
  refine wpAny_notedAt ?_
  unfold compStart
  show wpAny _ _ (ask >>= _) _ _ s
  refine wpAny_bind (wpAny_askSetting (wpAny_ite ?_))
  split
  · first
      | exact wpAny_bind (wpAny_pure (wpAny_pure (And.intro rfl h0)))
      | exact wpAny_pure (And.intro rfl h0)
  · refine wpAny_bind (wpAny_rule ?_)
    show wpAny _ _ (standAt it1.pos >>= _) _ _ s
    exact wpAny_bind (wpAny_standAt (wpAny_bind (wpAny_mono (h _) (fun it' s' h' => wpAny_pure (And.intro rfl h')) fun _ _ x => x)))
theorem comp_in_go {I : Addr} {acc : Value} {cenv : Env} {R : Result → Shared → Prop} {s : Shared} (hself : ∀ (Q' E' : Value → Shared → Prop), Q' (.ref I) s → wpAny (model prog w) A (pyIter (.ref I)) Q' E' s)
    (h0 : codeAny (model prog w) A (.compLoop (.ListComp elt [⟨t0, it0, [], 0⟩, ⟨t1, it1, [], 0⟩] scope pos) 1 (.ref I) acc cenv) R s) :
    codeAny (model prog w) A (.compStart (.ListComp elt [⟨t0, it0, [], 0⟩, ⟨t1, it1, [], 0⟩] scope pos) 1 (.ref I) acc cenv) R s := comp_in_start h0 fun E' => hself _ E' h0
/-- what a turn of the outer loop does -/
def CompOut (M : Model) (A : Around) (cenv : Env) (elt t0 it0 t1 it1 : Expr) (scope : Scope) (pos : Pos) (I D : Addr) (K : Shared → Prop) (E : Value → Shared → Prop) (s : Shared) : Prop :=
  wpAny M A (pyNext (.ref I)) (fun r s₁ => ∃ v, r = some v ∧ wpAny M A (letOwnedTupleGo t0 (.ref I) v) (fun _ s₂ => wpAny M A (assign t0 cenv v) (fun _ s₃ =>
    wpAny M A (eval it1 cenv) (fun x s₄ => wpAny M A (pyIter x) (fun y s₅ => ∀ R : Result → Shared → Prop, (∀ s₆, K s₆ → R (.ok .next) s₆) → codeAny M A (.compStart (.ListComp elt [⟨t0, it0, [], 0⟩, ⟨t1, it1, [], 0⟩] scope pos) 1 y (.ref D) cenv) R s₅) E s₄) E s₃) E s₂) E s₁) E s
theorem comp_out {I D : Addr} {cenv : Env} {R : Result → Shared → Prop} {s : Shared} (hs : ∀ x, foldedSetIterable it1 cenv x = pure x) (J : Nat → Shared → Prop) (n : Nat) (h0 : J 0 s)
    (turn : ∀ E' i s', i < n → J i s' → CompOut (model prog w) A cenv elt t0 it0 t1 it1 scope pos I D (J (i + 1)) E' s')
    (done : ∀ E' s', J n s' → wpAny (model prog w) A (pyNext (.ref I)) (fun r s₁ => r = none ∧ R (.ok .next) s₁) E' s') :
    codeAny (model prog w) A (.compLoop (.ListComp elt [⟨t0, it0, [], 0⟩, ⟨t1, it1, [], 0⟩] scope pos) 0 (.ref I) (.ref D) cenv) R s := by
  refine codeAny_loop rfl (fun k s' => ∃ i, k = n - i ∧ i ≤ n ∧ J i s') ?_ n ⟨0, rfl, Nat.zero_le _, h0⟩
  rintro k s' ⟨i, rfl, hi, hJ⟩
  show wpAny _ A ((compTurn (.ListComp elt [⟨t0, it0, [], 0⟩, ⟨t1, it1, [], 0⟩] scope pos) 0 (.ref I) (.ref D) cenv).onRaise (fun x => do noteFrame x cenv; theTreesLotGoes x)) _ _ s'
  refine wpAny_noted ?_
  rw [compTurn_out]
  refine wpAny_bind (wpAny_standAt (wpAny_bind ?_))
  by_cases hlt : i < n
  · refine wpAny_mono (turn _ i s' hlt hJ) (fun r s₁ h₁ => ?_) fun _ _ x => x
    obtain ⟨v, rfl, h₁⟩ := h₁
    refine wpAny_bind (wpAny_mono h₁ (fun _ s₂ h₂ => wpAny_bind (wpAny_mono h₂ (fun _ s₃ h₃ => ?_) fun _ _ x => x)) fun _ _ x => x)
    refine wpAny_bind (wpAny_mono h₃ (fun x s₄ h₄ => wpAny_bind (wpAny_standAt (wpAny_bind (wpAny_of_eq (hs x) (wpAny_bind (wpAny_holding (wpAny_mono h₄ (fun y s₅ h₅ => ?_) fun _ _ x => x))))))) fun _ _ x => x)
    refine wpAny_bind (wpAny_runOwn ?_)
    refine h₅ _ fun s₆ h₆ => ?_
    exact wpAny_pure ⟨rfl, n - (i + 1), by omega, i + 1, rfl, hlt, h₆⟩
  · have e : i = n := by omega
    subst e
    refine wpAny_mono (done _ s' hJ) (fun r s₁ h₁ => ?_) fun _ _ x => x
    obtain ⟨rfl, h₁⟩ := h₁
    exact wpAny_pure h₁
end
section
variable {prog : Program} {A : Around} {E : Value → Shared → Prop} {env : Env} {elt target iter : Expr} {ifs : List Expr} {rest : List Comprehension} {scope : Scope} {pos : Pos} {cl : List (Str × Addr)}
def CompGoR (M : Model) (A : Around) (env : Env) (elt target iter : Expr) (ifs : List Expr) (rest : List Comprehension) (scope : Scope) (pos : Pos) (cl : List (Str × Addr)) (RR : Value → Addr → Result → Shared → Prop) (E : Value → Shared → Prop) (it : Value) (s : Shared) : Prop :=
  wpAny M A (newList []) (fun acc s₃ => wpAny M A (newFunctionEnv scope env.globals cl [] env.qual none .none (some env)) (fun cenv s₄ =>
      codeAny M A (.compStart (.ListComp elt (⟨target, iter, ifs, 0⟩ :: rest) scope pos) 0 it acc { cenv with scope := relabel scope env }) (RR acc cenv.locals) s₄) E s₃) E s
theorem f_assign_compR {s : Shared} {Q : Flow → Shared → Prop} {y : Str} {py spos : Pos} (cl : List (Str × Addr)) (hsw : swapsWith (.ListComp elt (⟨target, iter, ifs, 0⟩ :: rest) scope pos) (some (.Name y py)) spos.line env = pure true) (hs : ∀ x, foldedSetIterable iter env x = pure x) (hclos : closureFor scope env = pure cl) (hkind : scope.kind = .function) (hnames : ∀ x ∈ scope.names, x.2 = .local → scope.names.lookup x.1 = some .local)
    (h : wpAny (model prog w) A (eval iter env) (fun x s₁ => wpAny (model prog w) A (pyIter x) (CompGoR (model prog w) A env elt target iter ifs rest scope pos cl (compPost (model prog w) A E (some (assign (.Name y py) env)) (fun _ s' => Q .next s')) E) E s₁) E s) :
    wpAny (model prog w) A (exec (.Assign [.Name y py] (.ListComp elt (⟨target, iter, ifs, 0⟩ :: rest) scope pos) spos) env) Q E s := by
  rw [exec_Assign_Name_used _ _ _ _ hsw]
  refine wpAny_bind (wpAny_standAt (wpAny_bind ?_))
  show wpAny _ A (do let _ ← comprehension (.ListComp elt (⟨target, iter, ifs, 0⟩ :: rest) scope pos) scope env _ (newList []) false (eval iter env) (some (assign (.Name y py) env))) _ _ s
  exact wpAny_bind (wpAny_mono (wpAny_comprehension_free (use := some (assign (.Name y py) env)) (Q := fun _ s' => Q .next s') rfl hs hclos hkind hnames h) (fun _ s' hq => wpAny_pure (wpAny_pure hq)) fun _ _ e => e)
theorem comp_base {hp : Heap} {gs : Array GenState} {dr : Drawn} {tk : Nat} {os : OsState} {I : Addr} {oI : Obj} {RR : Value → Addr → Result → Shared → Prop} (hcell : ∀ y ∈ scope.names, y.2 ≠ .cell) (hkind : scope.kind = .function) (hI : hp.get? I = some oI)
    (hself : ∀ s' Q' E', s'.heap.get? I = some oI → Q' (.ref I) s' → wpAny (model prog w) A (pyIter (.ref I)) Q' E' s')
    (loop : ∀ D C h₁ tk₁, Fr (hideAll hp [I]) C h₁ (lk []) → News (hideAll hp [I]) C h₁ [(D, listOf #[] 0), (I, oI)] → I < D → D < C → hp.get? D = none → hp.get? C = none →
      codeAny (model prog w) A (.compLoop (.ListComp elt (⟨target, iter, ifs, 0⟩ :: rest) scope pos) 0 (.ref I) (.ref D) (envK (relabel scope env) cl C env)) (RR (.ref D) C) ⟨h₁, gs, dr, tk₁, os⟩) :
    CompGoR (model prog w) A env elt target iter ifs rest scope pos cl RR E (.ref I) ⟨hp, gs, dr, tk, os⟩ := by
  unfold CompGoR
  refine wpAny_newObj_type (wpAny_newFunctionEnv hcell (by intro y hy; simp at hy) (fun h₁ hns₁ hsb₁ => ?_) hkind)
  dsimp only at hns₁ hsb₁ ⊢
  generalize hH2 : hp.push { cls := .type "list", dict := none, data := .seq ([] : List Value).toArray } = H2 at hns₁ hsb₁ ⊢
  have hC : H2.objs.size = hp.objs.size + 1 := by rw [← hH2, Heap.size_push]
  have hDC : hp.objs.size < H2.objs.size := by rw [hC]; exact Nat.lt_succ_self _
  have old : ∀ b o, H2.get? b = some o → h₁.get? b = some o := fun b o e => hsb₁.extBut b o (Nat.ne_of_lt (Heap.lt_size e)) (Heap.get?_push_of_some _ e)
  have old' : ∀ b o, hp.get? b = some o → h₁.get? b = some o := fun b o e => old b o (hH2 ▸ Heap.get?_push_of_some _ e)
  have hID : I < hp.objs.size := Heap.lt_size hI
  have hD : hp.get? hp.objs.size = none := Heap.get?_none_of_le (Nat.le_refl _)
  have hCn : hp.get? H2.objs.size = none := Heap.get?_none_of_le (Nat.le_of_lt hDC)
  have base : ∀ a, hp.get? a = none → (hideAll hp [I]).get? a = none := fun a e => by
    cases q : (hideAll hp [I]).get? a with
    | none => rfl
    | some o => have := of_hideAll _ q; rw [e] at this; cases this
  have F : Fr (hideAll hp [I]) H2.objs.size h₁ (lk []) := ⟨by rw [lk_nil]; exact hns₁, fun b o e => old' b o (of_hideAll _ e), by rw [hideAll_size]; exact Nat.le_of_lt hDC⟩
  have N : News (hideAll hp [I]) H2.objs.size h₁ [(hp.objs.size, listOf #[] 0), (I, oI)] := by
    intro p hp'
    rcases List.mem_cons.mp hp' with rfl | hp'
    · exact ⟨old _ _ (hH2 ▸ Heap.get?_push_size _ rfl), Nat.ne_of_lt hDC, base _ hD⟩
    · rw [List.mem_singleton.mp hp']
      exact ⟨old' _ _ hI, Nat.ne_of_lt (Nat.lt_trans hID hDC), hideAll_none _ (.head _)⟩
  have lp := loop _ _ _ (tk + ([] : List (Str × Value)).length) F N hID hDC hD hCn
  rw [envK_eq] at lp
  exact codeAny_compStart_list lp (hself _ _ _ (old' _ _ hI) lp)
end
end Mine
end
section
theorem Mine.freshT33 : True := by
  w_top off
  trivial
namespace Mine
variable {w : World} {mg mb : Str → Option Value}
def WayB (own : List (Addr × Obj)) (us : List Value) (way : List (Nat × Nat)) : Prop := us.length = way.length ∧ ∀ (i : Nat) (pq : Nat × Nat), way[i]? = some pq → ∃ (t : Addr) (t1 t2 : Tok), us[i]? = some (.ref t) ∧ (t, tupOf #[.int (pq.1 : Nat) t1, .int (pq.2 : Nat) t2]) ∈ own
theorem WayB.push {own : List (Addr × Obj)} {us : List Value} {way : List (Nat × Nat)} {pq : Nat × Nat} {T : Addr} {t1 t2 : Tok} (x : WayB own us way) : WayB ((T, tupOf #[.int (pq.1 : Nat) t1, .int (pq.2 : Nat) t2]) :: own) (us ++ [Value.ref T]) (way ++ [pq]) := by
  obtain ⟨a, b⟩ := x
  refine ⟨by rw [List.length_append, List.length_append, a]; rfl, fun i r e => ?_⟩
  rcases Nat.lt_or_ge i way.length with q | q
  · rw [List.getElem?_append_left q] at e
    obtain ⟨t, u1, u2, e1, m⟩ := b i r e
    exact ⟨t, u1, u2, (List.getElem?_append_left (by rw [a]; exact q)).trans e1, .tail _ m⟩
  · rw [List.getElem?_append_right q] at e
    have hi : i = way.length := by
      have := (List.getElem?_eq_some_iff.mp e).1
      rw [List.length_singleton] at this
      omega
    subst hi
    rw [Nat.sub_self] at e
    cases e
    exact ⟨T, t1, t2, by rw [← a, List.getElem?_append_right (Nat.le_refl _), Nat.sub_self]; rfl, .head _⟩
def pairsF (i : Nat) : List (Nat × Nat) := (List.range i).flatMap fun a => (List.range (5 - a)).map fun b => (a, a + 1 + b)
def updAt (D : Addr) (o' : Obj) (p : Addr × Obj) : Addr × Obj := if p.1 = D then (D, o') else p
theorem updAt_ne {D : Addr} {o' : Obj} {p : Addr × Obj} (h : p.1 ≠ D) : updAt D o' p = p := if_neg h
theorem updAt_eq {D : Addr} {o o' : Obj} : updAt D o' (D, o) = (D, o') := if_pos rfl
theorem updAt_addr {D : Addr} {o' : Obj} {p : Addr × Obj} : (updAt D o' p).1 = p.1 := by
  unfold updAt
  split
  · next h => exact h.symm
  · rfl
theorem mem_updAt {D : Addr} {o' : Obj} {p : Addr × Obj} {news : List (Addr × Obj)} (hm : p ∈ news) (h : p.1 ≠ D) : p ∈ news.map (updAt D o') := List.mem_map.mpr ⟨p, hm, updAt_ne h⟩
theorem mem_updAt_self {D : Addr} {o o' : Obj} {news : List (Addr × Obj)} (hm : (D, o) ∈ news) : (D, o') ∈ news.map (updAt D o') := List.mem_map.mpr ⟨_, hm, updAt_eq⟩
section
variable {prog : Program} {A : Around} {E : Value → Shared → Prop} {hp : Heap} {gs : Array GenState} {dr : Drawn} {tk : Nat} {os : OsState} {h₀ : Heap} {L D l : Addr} {m : Str → Option Value} {news : List (Addr × Obj)} {n k : Nat} {t : Tok} {v : Value}
theorem set_map {vs : List Value} {Q : Unit → Shared → Prop} (F : Fr h₀ L hp m) (N : News h₀ L hp news) (hm : (D, listOf vs.toArray n) ∈ news)
    (hk : k < vs.length) (hfit : k < 2 ^ 62) (h : ∀ h', Fr h₀ L h' m → News h₀ L h' (news.map (updAt D (listOf (vs.set k v).toArray n))) → Q () ⟨h', gs, dr, tk, os⟩) :
    wpAny (model prog w) A (setItem (.ref D) (.int (k : Int) t) v) Q E ⟨hp, gs, dr, tk, os⟩ := by
  have z := N _ hm
  have hsz : vs.toArray.size = vs.length := by simp
  refine ki_setAt z.1 (by omega) (by omega) (by omega) (h _ (F.change (Heap.SameBut.update ..) z.2.1 z.2.2) ?_)
  have e : vs.toArray.setIfInBounds (k : Int).toNat v = (vs.set k v).toArray := by
    rw [Int.toNat_natCast]
    apply Array.toList_inj.mp
    rw [Array.toList_setIfInBounds]
  intro p hp'
  obtain ⟨q, hq, rfl⟩ := List.mem_map.mp hp'
  refine ⟨?_, by rw [updAt_addr]; exact (N q hq).2.1, by rw [updAt_addr]; exact (N q hq).2.2⟩
  by_cases c : q.1 = D
  · unfold updAt
    rw [if_pos c]
    rw [← e]
    have hg := PySem.IsL.update z.1 (·.setIfInBounds (k : Int).toNat v)
    rw [if_pos (by simp)] at hg
    exact hg
  · rw [updAt_ne c]
    exact (Heap.get?_update_other _ _ (Ne.symm c)).trans (N q hq).1
theorem at_mem {vs : List Value} {ep : Nat} {u : Tok} {value slice : Expr} {Q : Value → Shared → Prop} (N : News h₀ L hp news) (hm : (l, listOf vs.toArray ep) ∈ news) (hk : k < 2 ^ 62) (hx : vs[k]? = some v) (h : Q v ⟨hp, gs, dr, tk, os⟩)
    (hs : subscripted slice false (.ref l) (.int (k : Int) u) = operate [.ref l, .int (k : Int) u] (getItem (.ref l) (.int (k : Int) u)) := by with_unfolding_all rfl) :
    wpAny (model prog w) A (subscriptTail value slice (.ref l) (.int (k : Int) u)) Q E ⟨hp, gs, dr, tk, os⟩ :=
  at_list (s := ⟨hp, gs, dr, tk, os⟩) (PySem.IsL.isList (n := ep) (N _ hm).1) hk hx h hs
theorem at_nats {vs : List Value} {ps : List Nat} {ep : Nat} {u : Tok} {value slice : Expr} {Q : Value → Shared → Prop} (N : News h₀ L hp news) (hm : (l, listOf vs.toArray ep) ∈ news) (hi : NatsAre vs ps) (hk : k < ps.length) (hf : k < 2 ^ 62) (h : ∀ t, Q (.int (ps.getD k 0 : Nat) t) ⟨hp, gs, dr, tk, os⟩)
    (hs : subscripted slice false (.ref l) (.int (k : Int) u) = operate [.ref l, .int (k : Int) u] (getItem (.ref l) (.int (k : Int) u)) := by with_unfolding_all rfl) :
    wpAny (model prog w) A (subscriptTail value slice (.ref l) (.int (k : Int) u)) Q E ⟨hp, gs, dr, tk, os⟩ := by
  obtain ⟨t, ht⟩ := NatsAre.at hi (i := k) (p := ps.getD k 0) (by rw [List.getD_eq_getElem?_getD, List.getElem?_eq_getElem hk]; rfl)
  exact at_mem N hm hf ht (h t) hs
theorem f_getM {vs : List Value} {ep : Nat} {u : Tok} {Q : Value → Shared → Prop} (N : News h₀ L hp news) (hm : (l, listOf vs.toArray ep) ∈ news) (hk : k < 2 ^ 62) (hx : vs[k]? = some v) (h : Q v ⟨hp, gs, dr, tk, os⟩) :
    wpAny (model prog w) A (getItem (.ref l) (.int (k : Nat) u)) Q E ⟨hp, gs, dr, tk, os⟩ := f_getL (N _ hm).1 hk (by simpa using hx) h
end
/-- a matrix of six by six -/
def updM (W : Nat → Nat → Int) (i j : Nat) (x : Int) : Nat → Nat → Int := fun a b => if a = i ∧ b = j then x else W a b
def MatB (own : List (Addr × Obj)) (rows : List Value) (W : Nat → Nat → Int) : Prop := rows.length = 6 ∧ (∀ i i', i < 6 → i' < 6 → i ≠ i' → rows[i]? ≠ rows[i']?) ∧
  ∀ i, i < 6 → ∃ (r : Addr) (cs : List Value) (e : Nat), rows[i]? = some (Value.ref r) ∧ (r, listOf cs.toArray e) ∈ own ∧ cs.length = 6 ∧ ∀ j, j < 6 → ∃ t, cs[j]? = some (Value.int (W i j) t)
theorem MatB.set {own : List (Addr × Obj)} {rows : List Value} {W : Nat → Nat → Int} {i j : Nat} {r : Addr} {cs : List Value} {e : Nat} {y : Int} {t : Tok} (x : MatB own rows W) (hi : i < 6) (hr : rows[i]? = some (Value.ref r)) (hm : (r, listOf cs.toArray e) ∈ own) (hc : cs.length = 6) (hv : ∀ j, j < 6 → ∃ t, cs[j]? = some (Value.int (W i j) t)) :
    MatB (own.map (updAt r (listOf (cs.set j (.int y t)).toArray e))) rows (updM W i j y) := by
  refine ⟨x.1, x.2.1, fun a ha => ?_⟩
  by_cases c : a = i
  · subst c
    refine ⟨r, _, e, hr, mem_updAt_self hm, by rw [List.length_set, hc], fun b hb => ?_⟩
    by_cases d : b = j
    · subst d
      refine ⟨t, ?_⟩
      rw [List.getElem?_set_self (by omega)]
      simp [updM]
    · obtain ⟨u, hu⟩ := hv b hb
      refine ⟨u, ?_⟩
      rw [List.getElem?_set_ne (Ne.symm d), hu]
      simp [updM, d]
  · obtain ⟨r', cs', e', q1, q2, q3, q4⟩ := x.2.2 a ha
    refine ⟨r', cs', e', q1, mem_updAt q2 (fun q => ?_), q3, fun b hb => ?_⟩
    · have hq : r' = r := q
      rw [hq] at q1
      exact x.2.1 a i ha hi c (q1.trans hr.symm)
    · obtain ⟨u, hu⟩ := q4 b hb
      exact ⟨u, by rw [hu]; simp [updM, c]⟩
def ZRows (own : List (Addr × Obj)) (rows : List Value) (j : Nat) : Prop := rows.length = j ∧ (∀ i, i < j → ∃ (r : Addr) (t : Tok), rows[i]? = some (Value.ref r) ∧ (r, listOf (Array.replicate 6 (Value.int ((0 : Nat) : Int) t)) 0) ∈ own) ∧ ∀ i i', i < j → i' < j → i ≠ i' → rows[i]? ≠ rows[i']?
theorem ZRows.push {own : List (Addr × Obj)} {rows : List Value} {j : Nat} {R : Addr} {t : Tok} (x : ZRows own rows j) (hR : ∀ p ∈ own, p.1 ≠ R) : ZRows ((R, listOf (Array.replicate 6 (Value.int ((0 : Nat) : Int) t)) 0) :: own) (rows ++ [Value.ref R]) (j + 1) := by
  obtain ⟨a, b, c⟩ := x
  have old : ∀ i, i < j → (rows ++ [Value.ref R])[i]? = rows[i]? := fun i q => List.getElem?_append_left (by rw [a]; exact q)
  have new : (rows ++ [Value.ref R])[j]? = some (Value.ref R) := by rw [← a, List.getElem?_append_right (Nat.le_refl _), Nat.sub_self]; rfl
  have ne : ∀ i, i < j → rows[i]? ≠ some (Value.ref R) := fun i q e => by
    obtain ⟨r, t', e1, m⟩ := b i q
    rw [e1] at e
    cases e
    exact hR _ m rfl
  refine ⟨by rw [List.length_append, a]; rfl, fun i hi => ?_, fun i i' hi hi' hne => ?_⟩
  · rcases Nat.lt_or_ge i j with q | q
    · obtain ⟨r, t, e, m⟩ := b i q
      exact ⟨r, t, (old i q).trans e, .tail _ m⟩
    · have e : i = j := by omega
      subst e
      exact ⟨R, t, new, .head _⟩
  · rcases Nat.lt_or_ge i j with q | q <;> rcases Nat.lt_or_ge i' j with q' | q'
    · rw [old i q, old i' q']; exact c i i' q q' hne
    · have e : i' = j := by omega
      subst e
      rw [old i q, new]; exact ne i q
    · have e : i = j := by omega
      subst e
      rw [old i' q', new]; exact (ne i' q').symm
    · omega
theorem zrows_mat {own : List (Addr × Obj)} {rows : List Value} (x : ZRows own rows 6) : MatB own rows (fun _ _ => 0) := by
  refine ⟨x.1, x.2.2, fun i hi => ?_⟩
  obtain ⟨r, t, e, m⟩ := x.2.1 i hi
  refine ⟨r, List.replicate 6 (Value.int ((0 : Nat) : Int) t), 0, e, ?_, List.length_replicate, fun j hj => ⟨t, ?_⟩⟩
  · rw [List.toArray_replicate]; exact m
  · rw [List.getElem?_replicate, if_pos hj]; rfl
theorem MatB.sub {own own' : List (Addr × Obj)} {rows : List Value} {W : Nat → Nat → Int} (x : MatB own rows W) (k : ∀ p ∈ own, p ∈ own') : MatB own' rows W :=
  ⟨x.1, x.2.1, fun i hi => let ⟨r, cs, e, a, b, c, d⟩ := x.2.2 i hi; ⟨r, cs, e, a, k _ b, c, d⟩⟩
theorem WayB.sub {own own' : List (Addr × Obj)} {us : List Value} {way : List (Nat × Nat)} (x : WayB own us way) (k : ∀ p ∈ own, p ∈ own') : WayB own' us way := ⟨x.1, fun i pq e => let ⟨t, t1, t2, e1, m⟩ := x.2 i pq e; ⟨t, t1, t2, e1, k _ m⟩⟩
def baseC : List Nat := [3, 1, 4, 1, 5, 9, 2, 6, 5, 3, 5, 8, 9, 7, 9]
def halfN : Int := 5 * 10 ^ Int.toNat 29
def offW (ns : List Int) (p : Nat) : Int := (ns.getD p 0 + halfN).fmod (2 * halfN) - halfN
def wStep (ns : List Int) (p i j : Nat) (W : Nat → Nat → Int) : Nat → Nat → Int :=
  let v := (baseC.getD p 0 : Int) + offW ns p
  updM (updM (updM W i j (baseC.getD p 0 : Nat)) i j v) j i (-v)
def wAt (ns : List Int) : Nat → Nat → Nat → Int
  | 0 => fun _ _ => 0
  | p + 1 => wStep ns p ((pairsF 6).getD p (0, 0)).1 ((pairsF 6).getD p (0, 0)).2 (wAt ns p)
structure WS (news : List (Addr × Obj)) (S P : Addr) (eS eP : Nat) (rows pl : List Value) (W : Nat → Nat → Int) : Prop where
  s : (S, listOf rows.toArray eS) ∈ news
  mat : MatB news rows W
  p : (P, listOf pl.toArray eP) ∈ news
  way : WayB news pl (pairsF 6)
section
variable {prog : Program} {A : Around} {E : Value → Shared → Prop} {hp : Heap} {gs : Array GenState} {dr : Drawn} {tk : Nat} {os : OsState} {h₀ : Heap} {L S P I r : Addr} {m : Str → Option Value} {news : List (Addr × Obj)} {eS eP i j : Nat} {t u : Tok} {rows pl : List Value} {W : Nat → Nat → Int} {oI : Obj}
theorem WS.row (x : WS news S P eS eP rows pl W) (hi : i < 6) : ∃ r, rows[i]? = some (Value.ref r) := let ⟨r, _, _, e, _⟩ := x.mat.2.2 i hi; ⟨r, e⟩
theorem WS.cell (x : WS news S P eS eP rows pl W) (hi : i < 6) (hr : rows[i]? = some (Value.ref r)) : ∃ (cs : List Value) (e : Nat), (r, listOf cs.toArray e) ∈ news ∧ cs.length = 6 ∧ ∀ j, j < 6 → ∃ t, cs[j]? = some (Value.int (W i j) t) := by
  obtain ⟨r', cs, e, a, b⟩ := x.mat.2.2 i hi
  rw [hr] at a
  cases a
  exact ⟨cs, e, b⟩
theorem ws_row {value slice : Expr} {Q : Value → Shared → Prop} (N : News h₀ L hp ((I, oI) :: news)) (x : WS news S P eS eP rows pl W) (hi : i < 6) (hr : rows[i]? = some (Value.ref r)) (h : Q (.ref r) ⟨hp, gs, dr, tk, os⟩)
    (hs : subscripted slice false (.ref S) (.int (i : Int) u) = operate [.ref S, .int (i : Int) u] (getItem (.ref S) (.int (i : Int) u)) := by with_unfolding_all rfl) :
    wpAny (model prog w) A (subscriptTail value slice (.ref S) (.int (i : Int) u)) Q E ⟨hp, gs, dr, tk, os⟩ := at_mem N (.tail _ x.s) (by omega) hr h hs
theorem ws_cell {value slice : Expr} {Q : Value → Shared → Prop} (N : News h₀ L hp ((I, oI) :: news)) (x : WS news S P eS eP rows pl W) (hi : i < 6) (hj : j < 6) (hr : rows[i]? = some (Value.ref r)) (h : ∀ t, Q (.int (W i j) t) ⟨hp, gs, dr, tk, os⟩)
    (hs : subscripted slice false (.ref r) (.int (j : Int) u) = operate [.ref r, .int (j : Int) u] (getItem (.ref r) (.int (j : Int) u)) := by with_unfolding_all rfl) :
    wpAny (model prog w) A (subscriptTail value slice (.ref r) (.int (j : Int) u)) Q E ⟨hp, gs, dr, tk, os⟩ := by
  obtain ⟨cs, e, b, _, d⟩ := x.cell hi hr
  obtain ⟨t, ht⟩ := d j hj
  exact at_mem N (.tail _ b) (by omega) ht (h t) hs
theorem ws_get {Q : Value → Shared → Prop} (N : News h₀ L hp ((I, oI) :: news)) (x : WS news S P eS eP rows pl W) (hi : i < 6) (hj : j < 6) (hr : rows[i]? = some (Value.ref r)) (h : ∀ t, Q (.int (W i j) t) ⟨hp, gs, dr, tk, os⟩) :
    wpAny (model prog w) A (getItem (.ref r) (.int (j : Nat) u)) Q E ⟨hp, gs, dr, tk, os⟩ := by
  obtain ⟨cs, e, b, _, d⟩ := x.cell hi hr
  obtain ⟨t, ht⟩ := d j hj
  exact f_getM N (.tail _ b) (by omega) ht (h t)
theorem ws_set {y : Int} {Q : Unit → Shared → Prop} (F : Fr h₀ L hp m) (N : News h₀ L hp ((I, oI) :: news)) (hsep : ∀ p ∈ news, p.1 ≠ I) (x : WS news S P eS eP rows pl W) (hi : i < 6) (hj : j < 6) (hr : rows[i]? = some (Value.ref r))
    (h : ∀ h' news', Fr h₀ L h' m → News h₀ L h' ((I, oI) :: news') → (∀ p ∈ news', p.1 ≠ I) → WS news' S P eS eP rows pl (updM W i j y) → Q () ⟨h', gs, dr, tk, os⟩) :
    wpAny (model prog w) A (setItem (.ref r) (.int (j : Int) u) (.int y t)) Q E ⟨hp, gs, dr, tk, os⟩ := by
  obtain ⟨cs, e, b, c, d⟩ := x.cell hi hr
  have hrI : I ≠ r := fun q => hsep _ b q.symm
  have same : ∀ {o o' : Obj}, (r, o) ∈ news → (r, o') ∈ news → o = o' := fun a b => Option.some.inj (((N _ (.tail _ a)).1).symm.trans (N _ (.tail _ b)).1)
  have lsame : ∀ {l l' : List Value} {n n' : Nat}, listOf l.toArray n = listOf l'.toArray n' → l = l' := fun q => by
    have q1 : (listOf _ _).data = (listOf _ _).data := congrArg Obj.data q
    injection q1 with q2
    exact List.toArray_inj q2
  refine set_map F N (.tail _ b) (by omega) (by omega) fun h' F' N' => ?_
  rw [List.map_cons, updAt_ne (show (I, oI).1 ≠ r from hrI)] at N'
  refine h h' _ F' N' (fun p hp' => ?_) ⟨mem_updAt x.s fun q => ?_, x.mat.set hi hr b c d, mem_updAt x.p fun q => ?_, x.way.1, fun k pq e' => ?_⟩
  · obtain ⟨q, hq, rfl⟩ := List.mem_map.mp hp'
    rw [updAt_addr]
    exact hsep q hq
  · have hS : S = r := q
    have hs := x.s
    rw [hS] at hs
    have := lsame (same hs b)
    obtain ⟨t', ht'⟩ := d 0 (by decide)
    obtain ⟨r0, hr0⟩ := x.row (i := 0) (by decide)
    rw [this, ht'] at hr0
    cases hr0
  · have hS : P = r := q
    have hs := x.p
    rw [hS] at hs
    have := lsame (same hs b)
    have h15 : pl.length = 15 := x.way.1
    rw [this, c] at h15
    cases h15
  · obtain ⟨t0, t1, t2, e1, m⟩ := x.way.2 k pq e'
    refine ⟨t0, t1, t2, e1, mem_updAt m fun q => ?_⟩
    have hS : t0 = r := q
    rw [hS] at m
    have q2 := congrArg Obj.cls (same m b)
    injection q2 with q3
    exact absurd q3 (by decide)
end
end Mine
end
section
theorem Mine.freshT31 : True := by
  w_top off
  trivial
namespace Mine
variable {w : World} {mg mb : Str → Option Value}
theorem ri_self {prog : Program} {A : Around} {I : Addr} {x n : Nat} : ∀ (s' : Shared) (Q' E' : Value → Shared → Prop), s'.heap.get? I = some (riObj x n) → Q' (.ref I) s' → wpAny (model prog w) A (pyIter (.ref I)) Q' E' s' :=
  fun _ _ _ e h => wpAny_pyIter_rangeiter (x := (x : Int)) (left := (n : Int)) (step := 1) e h
theorem cp_nil {prog : Program} {A : Around} {cenv : Env} {K K' : Shared → Prop} {E : Value → Shared → Prop} {s : Shared} (h : K s) : CompIfs (model prog w) A cenv [] K K' E s := h
theorem cp_one {prog : Program} {A : Around} {cenv : Env} {c : Expr} {K K' : Shared → Prop} {E : Value → Shared → Prop} {s : Shared} (h : wpAny (model prog w) A (isTrue c cenv (eval c cenv)) (fun b s' => if b = true then K s' else K' s') E s) : CompIfs (model prog w) A cenv [c] K K' E s := h
theorem asK {prog : Program} {A : Around} {E : Value → Shared → Prop} {hp : Heap} {gs : Array GenState} {dr : Drawn} {tk : Nat} {os : OsState} {h₀ : Heap} {C : Addr} {l : List (Str × Value)} {news : List (Addr × Obj)} {sc : Scope} {cl : List (Str × Addr)} {env : Env} {x : Str} {pos : Pos} {v : Value} {Q : Unit → Shared → Prop} (F : Fr h₀ C hp (lk l)) (N : News h₀ C hp news) (hp' : plainS sc = true) (hk : kindS sc x = some .local)
    (h : ∀ h' tk', Fr h₀ C h' (lk ((x, v) :: l)) → News h₀ C h' news → Q () ⟨h', gs, dr, tk', os⟩) : wpAny (model prog w) A (assign (.Name x pos) (envK sc cl C env) v) Q E ⟨hp, gs, dr, tk, os⟩ := assign_Name (stK F N hp' hk h)
local macro_rules | `(tactic| walk_at "eval Constant int") => `(tactic| first | refine f_intK 0 (by with_unfolding_all rfl) ?_ | refine f_intK 1 (by with_unfolding_all rfl) ?_ | refine f_intK 15 (by with_unfolding_all rfl) ?_ | refine f_intK 6 (by with_unfolding_all rfl) ?_)
local macro_rules | `(tactic| walk_at "eval Name") => `(tactic| first | (refine nmK_loc (by assumption) (by kernel_rfl) (by kernel_rfl) (by decide) (by first | exact Mine.lk_hit | exact Mine.lk_of (by with_unfolding_all rfl) | ((repeat refine Mine.lk_miss (by kernel_rfl) ?_); first | exact Mine.lk_hit | assumption)) ?_) | (refine nmK_blt (by assumption) (by assumption) (by kernel_rfl) (by kernel_rfl) (by decide) (by kernel_rfl) (by boot_fast) (by decide) ?_) | (refine Mine.nm_loc (by assumption) (by kernel_rfl) (by kernel_rfl) (by decide) (by first | exact Mine.lk_hit | assumption | exact Mine.lk_of (by with_unfolding_all rfl) | ((repeat refine Mine.lk_miss (by kernel_rfl) ?_); first | exact Mine.lk_hit | assumption)) ?_))
local macro_rules | `(tactic| walk_at "binaryOp Add int int") => `(tactic| refine f_addN ?_)
local macro_rules | `(tactic| walk_at "call builtin:len") => `(tactic| refine f_lenL (by assumption) (by assumption) (by omega) ?_)
theorem pairs_fact : ∀ p, p < 15 → ((pairsF 6).getD p (0, 0)).1 < ((pairsF 6).getD p (0, 0)).2 ∧ ((pairsF 6).getD p (0, 0)).2 < 6 ∧ (pairsF 6)[p]? = some ((pairsF 6).getD p (0, 0)) := by decide
theorem worths_spec {prog : Program} {A : Around} {E : Value → Shared → Prop} {hp : Heap} {gs : Array GenState} {dr : Drawn} {tk : Nat} {os : OsState} {D₀ : Addr} {vs : List Value} {ns : List Int} {Q : Value → Shared → Prop} (G : Gl w mg mb hp)
    (hl : hp.IsList D₀ vs.toArray) (hi : IntsAre vs ns) (hn : ns.length ≤ 63) (hh : A.handled = none) (hroom : A.depth + 10 < recursionLimit)
    (h : ∀ h' tk' S own rows ep, Ext [] hp h' → Fresh hp h' own → (S, listOf rows.toArray ep) ∈ own → MatB own rows (wAt ns 15) → Q (.ref S) ⟨h', gs, dr, tk', os⟩) :
    wpAny (model prog w) A (call (.ref 254) [.ref D₀]) Q E ⟨hp, gs, dr, tk, os⟩ := by
  refine wpAny_call (enter (body := [_, _, _, _, _]) [("script", .ref D₀)] G (by rfl) (by kernel_rfl) (by omega) (.of_eq (by kernel_rfl)) (by kernel_rfl) (fun L h₁ tk F N => ?_) (by kernel_rfl) (by kernel_rfl) (by kernel_rfl) (by kernel_rfl))
  have hh' : (A.deeper (envF w 254 L)).handled = none := hh
  have hat : ∀ (i : Nat) (n : Int), ns[i]? = some n → ∃ t, vs[i]? = some (Value.int n t) := fun i n e => IntsAre.get hi i n e
  have hvl : vs.length = ns.length := IntsAre.length hi
  clear hi
  walk1
  refine f_assign_comp [] (by kernel_rfl) (by intro _; rfl) (by kernel_rfl) (by rfl) (by decide) ?_
  iterate 7 walk1
  rename_i h2 tk2 t1 u1 v1 hR2 F2 N2 k2
  clear k2
  refine f_iter_range (a := 0) (b := 6) hR2 F2 N2 (by omega) (by omega) fun I h3 F3 N3 q3 => ?_
  clear F2 N2 hR2
  refine comp_goP (oI := riObj 0 6) (by decide) (by rfl) (N3 _ (.head _)).1 ri_self 6 (fun D C j s' => All5 (D < C) (I < D) (h3.get? D = none) (h3.get? C = none) (Ex6 fun (h' : Heap) (tk' : Nat) (l : List (Str × Value)) (rows : List Value) (ep : Nat) (own : List (Addr × Obj)) => All5 (s' = ⟨h', gs, dr, tk', os⟩) (Fr (hideAll h3 [I]) C h' (lk l)) (News (hideAll h3 [I]) C h' ((D, listOf rows.toArray ep) :: (I, riObj j (6 - j)) :: own)) (∀ p ∈ own, D < p.1) (ZRows own rows j))) ?h0 ?turn ?done
  case h0 =>
    intro D C h' tk' F' N' lID lDC eD eC
    exact ⟨lDC, lID, eD, eC, h', tk', [], [], 0, [], rfl, F', N', (fun _ hp => nomatch hp), rfl, (fun i hi => absurd hi (Nat.not_lt_zero _)), fun i i' hi => absurd hi (Nat.not_lt_zero _)⟩
  case turn =>
    rintro E' D C K j _ hj hKK ⟨lDC, lID, eD, eC, h', tk', l, rows, ep, own, rfl, F', N', hown, hrows⟩
    unfold CompTurn
    have hne : ∀ p ∈ (D, listOf rows.toArray ep) :: own, p.1 ≠ I := ne_cons (Nat.ne_of_gt lID) (fun p hp => Nat.ne_of_gt (Nat.lt_trans lID (hown p hp)))
    refine next_range F' (news := (D, listOf rows.toArray ep) :: own) (fun p hp => N' p (mem_swap hp)) hne (by omega) fun h4 t4 tk4 F4 N4 => ⟨_, rfl, letGo_name ?_⟩
    refine asK F4 N4 (by kernel_rfl) (by kernel_rfl) fun h5 tk5 F5 N5 => cp_nil ?_
    iterate 6 walk1
    rename_i l1 h6 F6 N6 q6
    walk1
    refine f_rep F6 N6 (.head _) (by decide) fun R h7 F7 N7 q7 => ?_
    have qRD : D < R := q7 (D, _) (.tail _ (.tail _ (.head _)))
    have qRI : I < R := q7 (I, _) (.tail _ (.head _))
    have N7' : News (hideAll h3 [I]) C h7 ((D, listOf rows.toArray ep) :: (R, listOf (Array.replicate 6 (Value.int ((0 : Nat) : Int) tk5)) 0) :: (I, riObj (j + 1) (6 - j - 1)) :: own) := news_cons (N7 _ (.tail _ (.tail _ (.tail _ (.head _))))) (news_cons (N7 _ (.head _)) (news_cons (N7 _ (.tail _ (.tail _ (.head _)))) (fun p hp => N7 p (.tail _ (.tail _ (.tail _ (.tail _ hp)))))))
    refine f_append F7 N7' (.head fun p hp => ?_) (fun h8 F8 N8 => ?_) (by rw [List.size_toArray, hrows.1]; omega)
    · rcases List.mem_cons.mp hp with rfl | hp
      · exact Nat.ne_of_gt qRD
      rcases List.mem_cons.mp hp with rfl | hp
      · exact Nat.ne_of_lt lID
      · exact Nat.ne_of_gt (hown p hp)
    refine hKK _ ⟨lDC, lID, eD, eC, h8, _, _, rows ++ [Value.ref R], ep + 1, (R, listOf (Array.replicate 6 (Value.int ((0 : Nat) : Int) tk5)) 0) :: own, rfl, F8, fun p hp => ?_, fun p hp => ?_, ?_⟩
    · have e8 : rows.toArray.push (Value.ref R) = (rows ++ [Value.ref R]).toArray := by simp
      rw [e8] at N8
      rcases List.mem_cons.mp hp with rfl | hp
      · exact N8 _ (.head _)
      rcases List.mem_cons.mp hp with rfl | hp
      · exact N8 _ (.tail _ (.tail _ (.head _)))
      rcases List.mem_cons.mp hp with rfl | hp
      · exact N8 _ (.tail _ (.head _))
      · exact N8 _ (.tail _ (.tail _ (.tail _ hp)))
    · rcases List.mem_cons.mp hp with rfl | hp
      · exact qRD
      · exact hown p hp
    · exact hrows.push fun p hp => Nat.ne_of_lt (q7 p (.tail _ (.tail _ (.tail _ hp))))
  case done =>
    rintro E' D C K hKK _ ⟨lDC, lID, eD, eC, h', tk', l, rows, ep, own, rfl, F', N', hown, hrows⟩
    have hne : ∀ p ∈ (D, listOf rows.toArray ep) :: own, p.1 ≠ I := ne_cons (Nat.ne_of_gt lID) (fun p hp => Nat.ne_of_gt (Nat.lt_trans lID (hown p hp)))
    refine next_range_end hh' (x := 6) F' (news := (D, listOf rows.toArray ep) :: own) (fun p hp => N' p (mem_swap hp)) hne fun h4 F4 N4 => ⟨rfl, hKK _ ?_⟩
    refine comp_end_st F3 N3 (fun _ hp => nomatch hp) F4 N4 hne eC (by kernel_rfl) (by kernel_rfl) fun h5 tk5 F5 N5 => ?_
    clear N4 F4 N' F'
    rw [List.append_nil] at N5
    iterate 2 walk1
    refine f_assign_compR [] (by kernel_rfl) (by intro _; rfl) (by kernel_rfl) (by rfl) (by decide) ?_
    iterate 7 walk1
    rename_i h6 tk6 t6 u6 v6 hR6 F6 N6 k6
    clear k6
    refine f_iter_range (a := 0) (b := 6) hR6 F6 N6 (by omega) (by omega) fun I2 h7 F7 N7 q7 => ?_
    clear F6 N6 hR6
    have GI : Gl w mg mb (hideAll h7 [I2]) := Gl.hide1 G F7.keep (N7 _ (.head _)).2.2 (N7 _ (.head _)).1 (fun _ _ e => by cases e) (fun e => by cases e)
    refine comp_base (oI := riObj 0 6) (by decide) (by rfl) (N7 _ (.head _)).1 ri_self fun D2 C2 h8 tk8 F8 N8 lID2 lDC2 eD2 eC2 => ?_
    refine comp_out (by intro _; rfl) (fun i s' => Ex6 fun (h' : Heap) (tk' : Nat) (l : List (Str × Value)) (pl : List Value) (ep2 : Nat) (own2 : List (Addr × Obj)) => All5 (s' = ⟨h', gs, dr, tk', os⟩) (Fr (hideAll h7 [I2]) C2 h' (lk l)) (News (hideAll h7 [I2]) C2 h' ((D2, listOf pl.toArray ep2) :: (I2, riObj i (6 - i)) :: own2)) (∀ p ∈ own2, D2 < p.1) (WayB own2 pl (pairsF i))) 6 ?g0 ?gturn ?gdone
    case g0 => exact ⟨h8, _, [], [], 0, [], rfl, F8, N8, (fun _ hp => nomatch hp), rfl, fun i pq e => by simp [pairsF] at e⟩
    case gturn =>
      rintro E' i _ hi ⟨h', tk', l, pl, ep2, own2, rfl, F', N', hown2, hpl⟩
      unfold CompOut
      have hne2 : ∀ p ∈ (D2, listOf pl.toArray ep2) :: own2, p.1 ≠ I2 := ne_cons (Nat.ne_of_gt lID2) (fun p hp => Nat.ne_of_gt (Nat.lt_trans lID2 (hown2 p hp)))
      refine next_range F' (news := (D2, listOf pl.toArray ep2) :: own2) (fun p hp => N' p (mem_swap hp)) hne2 (by omega) fun h9 t9 tk9 F9 N9 => ⟨_, rfl, letGo_name ?_⟩
      refine asK F9 N9 (by kernel_rfl) (by kernel_rfl) fun h10 tk10 F10 N10 => ?_
      iterate 12 walk1
      rename_i h11 tk11 t11 u11 v11 hR11 F11 N11 k11
      clear k11
      refine f_iter_range (a := i + 1) (b := 6) hR11 F11 N11 (by omega) (by omega) fun I3 h12 F12 N12 q12 => fun R hR => ?_
      clear F11 N11 hR11
      have l32 : D2 < I3 ∧ I2 < I3 := ⟨q12 (D2, _) (.tail _ (.head _)), q12 (I2, _) (.head _)⟩
      refine comp_in_go (fun Q' E' => ri_self _ Q' E' (N12 _ (.head _)).1) ?_
      refine comp_in (fun b s' => Ex6 fun (h' : Heap) (tk' : Nat) (l : List (Str × Value)) (pl : List Value) (ep2 : Nat) (own2 : List (Addr × Obj)) => All6 (s' = ⟨h', gs, dr, tk', os⟩) (Fr (hideAll h7 [I2]) C2 h' (lk l)) (News (hideAll h7 [I2]) C2 h' ((I3, riObj (i + 1 + b) (6 - (i + 1) - b)) :: (D2, listOf pl.toArray ep2) :: (I2, riObj (i + 1) (6 - i - 1)) :: own2)) (∀ p ∈ own2, D2 < p.1 ∧ p.1 ≠ I3) (∃ ti, lk l (Str.ofString "i") = some (Value.int (i : Nat) ti)) (WayB own2 pl (pairsF i ++ (List.range b).map fun b => (i, i + 1 + b)))) (6 - (i + 1)) ?k0 ?kturn ?kdone
      case k0 =>
        refine ⟨h12, _, _, pl, ep2, own2, rfl, F12, fun p hp => ?_, fun p hp => ⟨hown2 p hp, Nat.ne_of_lt (q12 p (.tail _ (.tail _ hp)))⟩, ⟨_, lk_hit⟩, ?_⟩
        · rcases List.mem_cons.mp hp with rfl | hp
          · exact N12 _ (.head _)
          rcases List.mem_cons.mp hp with rfl | hp
          · exact N12 _ (.tail _ (.tail _ (.head _)))
          rcases List.mem_cons.mp hp with rfl | hp
          · exact N12 _ (.tail _ (.head _))
          · exact N12 _ (.tail _ (.tail _ (.tail _ hp)))
        · rw [List.range_zero, List.map_nil, List.append_nil]; exact hpl
      case kdone =>
        rintro E' _ ⟨h', tk', l, pl, ep2, own2, rfl, F', N', hown2, ⟨ti, hti⟩, hpl⟩
        rw [Nat.sub_self] at N'
        refine next_range_end hh' F' N' (ne_cons (Nat.ne_of_lt l32.1) (ne_cons (Nat.ne_of_lt l32.2) (fun p hp => (hown2 p hp).2))) fun h13 F13 N13 => ⟨rfl, hR _ ?_⟩
        · refine ⟨h13, _, l, pl, ep2, own2, rfl, F13, N13, fun p hp => (hown2 p hp).1, ?_⟩
          have e : pairsF (i + 1) = pairsF i ++ (List.range (6 - (i + 1))).map fun b => (i, i + 1 + b) := by
            unfold pairsF
            rw [List.range_succ, List.flatMap_append, List.flatMap_singleton, show 6 - (i + 1) = 5 - i by omega]
          rw [e]
          exact hpl
      case kturn =>
        rintro E' b _ hb ⟨h', tk', l, pl, ep2, own2, rfl, F', N', hown2, ⟨ti, hti⟩, hpl⟩
        unfold CompTurn
        have hne3 : ∀ p ∈ (D2, listOf pl.toArray ep2) :: (I2, riObj (i + 1) (6 - i - 1)) :: own2, p.1 ≠ I3 := ne_cons (Nat.ne_of_lt l32.1) (ne_cons (Nat.ne_of_lt l32.2) (fun p hp => (hown2 p hp).2))
        refine next_range F' N' hne3 (by omega) fun h13 t13 tk13 F13 N13 => ⟨_, rfl, letGo_name ?_⟩
        refine asK F13 N13 (by kernel_rfl) (by kernel_rfl) fun h14 tk14 F14 N14 => cp_nil ?_
        iterate 6 walk1
        refine f_tup F14 N14 (by show 2 ≤ 1000; decide) fun T h15 F15 N15 q15 => ?_
        have qTD : D2 < T := q15 (D2, _) (.tail _ (.head _))
        have qTI : I3 < T := q15 (I3, _) (.head _)
        refine f_append F15 N15 (.tail (Nat.ne_of_gt qTD) (.tail (Nat.ne_of_gt l32.1) (.head fun p hp => ?_))) (fun h16 F16 N16 => ?_) ?hsz
        · rcases List.mem_cons.mp hp with rfl | hp
          · exact Nat.ne_of_lt lID2
          · exact Nat.ne_of_gt (hown2 p hp).1
        case hsz =>
          have b1 := flatMap_len (f := fun a => (List.range (5 - a)).map fun b => (a, a + 1 + b)) (B := 5) (l := List.range i) fun k _ => by rw [List.length_map, List.length_range]; omega
          have b2 := hpl.1
          rw [List.length_append, List.length_map, List.length_range] at b2
          rw [List.length_range] at b1
          unfold pairsF at b2
          rw [List.size_toArray, b2]
          omega
        refine ⟨h16, _, _, pl ++ [Value.ref T], ep2 + 1, (T, tupOf #[.int (i : Nat) ti, .int (i + 1 + b : Nat) t13]) :: own2, rfl, F16, fun p hp => ?_, fun p hp => ?_, ⟨ti, lk_miss (by kernel_rfl) hti⟩, ?_⟩
        · have e16 : pl.toArray.push (Value.ref T) = (pl ++ [Value.ref T]).toArray := by simp
          rw [e16] at N16
          rcases List.mem_cons.mp hp with rfl | hp
          · exact N16 _ (.tail _ (.head _))
          rcases List.mem_cons.mp hp with rfl | hp
          · exact N16 _ (.tail _ (.tail _ (.head _)))
          rcases List.mem_cons.mp hp with rfl | hp
          · exact N16 _ (.tail _ (.tail _ (.tail _ (.head _))))
          rcases List.mem_cons.mp hp with rfl | hp
          · exact N16 _ (.head _)
          · exact N16 _ (.tail _ (.tail _ (.tail _ (.tail _ hp))))
        · rcases List.mem_cons.mp hp with rfl | hp
          · exact ⟨qTD, Nat.ne_of_gt qTI⟩
          · exact hown2 p hp
        · rw [List.range_succ, List.map_append, ← List.append_assoc]
          exact WayB.push hpl
    case gdone =>
      rintro E' _ ⟨h', tk', l, pl, ep2, own2, rfl, F', N', hown2, hpl⟩
      have hne2 : ∀ p ∈ (D2, listOf pl.toArray ep2) :: own2, p.1 ≠ I2 := ne_cons (Nat.ne_of_gt lID2) (fun p hp => Nat.ne_of_gt (Nat.lt_trans lID2 (hown2 p hp)))
      refine next_range_end hh' (x := 6) F' (news := (D2, listOf pl.toArray ep2) :: own2) (fun p hp => N' p (mem_swap hp)) hne2 fun h9 F9 N9 => ⟨rfl, ?_⟩
      refine comp_end_st F7 N7 (fun p hp => Nat.ne_of_lt (q7 p hp)) F9 N9 hne2 eC2 (by kernel_rfl) (by kernel_rfl) fun h10 tk10 F10 N10 => ?_
      have lWP : ∀ p ∈ (D2, listOf pl.toArray ep2) :: own2, ∀ q ∈ (D, listOf rows.toArray ep) :: own, p.1 ≠ q.1 := by
        intro p hp q hq e
        have a := comp_fresh N9 hne2 (Heap.SameBut.refl ..) p hp
        have b := N7 q (.tail _ hq)
        rw [e, b.1] at a
        cases a.1
      clear N9 F9 N' F' N8 F8 GI
      have hm0 : MatB ((D2, listOf pl.toArray ep2) :: own2 ++ (D, listOf rows.toArray ep) :: own) rows (wAt ns 0) := (zrows_mat hrows).sub fun p hp => List.mem_append_right _ (.tail _ hp)
      iterate 21 walk1
      rename_i h11 tk11 N11' F11' h11 tk11 t11 u11 v11 hR11 F11 N11 k11
      clear k11 N11' F11'
      refine f_iter_range (a := 0) (b := 15) hR11 F11 N11 (by omega) (by omega) fun I4 h12 F12 N12 q12 => ?_
      clear F11 N11 hR11
      refine loop_ruleP lv_passes (fun place s' => Ex4 fun (h' : Heap) (tk' : Nat) (l' : List (Str × Value)) (news : List (Addr × Obj)) => All9 (s' = ⟨h', gs, dr, tk', os⟩) (Fr hp L h' (lk l')) (News hp L h' ((I4, riObj place (15 - place)) :: news)) (∀ p ∈ news, p.1 ≠ I4) (WS news D D2 ep ep2 rows pl (wAt ns place)) (lk l' (Str.ofString "worths") = some (Value.ref D)) (lk l' (Str.ofString "pairs") = some (Value.ref D2)) (lk l' (Str.ofString "script") = some (Value.ref D₀)) (∃ th, lk l' (Str.ofString "half") = some (Value.int halfN th))) 15 ?p0 ?pturn ?pdone
      case p0 => exact ⟨h12, _, _, _, rfl, F12, N12, (fun p hp => Nat.ne_of_lt (q12 p hp)), ⟨List.mem_append_right _ (.head _), hm0, .head _, hpl.sub fun p hp => .tail _ (List.mem_append_left _ hp)⟩, lk_of (by rfl), lk_of (by rfl), lk_of (by rfl), ⟨_, lk_hit⟩⟩
      case pdone =>
        rintro Pd Xd hPd _ ⟨h', tk', l', news, rfl, F', N', hsep, hws, lw, lp, ls, ⟨th, lh⟩⟩
        refine next_range_end hh' (x := 15) F' N' hsep fun h13 F13 N13 => ⟨rfl, hPd _ ?_⟩
        iterate 6 walk1
        exact h _ _ D news rows ep (fun b o _ e => F13.keep b o e) (Fresh.of_news N13) hws.s hws.mat
      case pturn =>
        rintro Po Xo hXo p _ hp15 hPo ⟨h', tk', l', news, rfl, F', N', hsep, hws, lw, lp, ls, ⟨th, lh⟩⟩
        refine next_range F' N' hsep (by omega) fun h13 t13 tk13 F13 N13 => ⟨_, rfl, letGo_name ?_⟩
        iterate 7 walk1
        rename_i h14 tk14 F14 N14
        clear F13 N13 F' N'
        obtain ⟨hij1, hij2, hij⟩ := pairs_fact p hp15
        obtain ⟨i, j, eij⟩ : ∃ i j, (pairsF 6).getD p (0, 0) = (i, j) := ⟨_, _, rfl⟩
        rw [eij] at hij1 hij2 hij
        dsimp only at hij1 hij2
        obtain ⟨T, ta, tb, hT, hTm⟩ := hws.way.2 p (i, j) hij
        refine at_mem N14 (.tail _ hws.p) (by omega) hT ?_
        have hTT : IsTup h14 T #[Value.int (i : Nat) ta, Value.int (j : Nat) tb] := ⟨_, (N14 _ (.tail _ hTm)).1, rfl, 0, rfl⟩
        refine f_unpack2 F14 N14 hTT hh' fun h15 F15 N15 => ?_
        iterate 5 walk1
        rename_i h16 tk16 F16 N16 h17 tk17 F17 N17
        clear F16 N16 F15 N15 hTT
        refine wpAny_mono (Q := fun v s' => ∃ t tk', v = Value.int (ns.getD p 0) t ∧ s' = ⟨h17, gs, dr, tk', os⟩) ?xval (fun v s' hv => ?_) (fun _ _ x => x)
        case xval =>
          iterate 16 walk1
          · rcases Nat.lt_or_ge p ns.length with q | q
            · obtain ⟨t, ht⟩ := hat p (ns.getD p 0) (by rw [List.getD_eq_getElem?_getD, List.getElem?_eq_getElem q]; rfl)
              exact at_list (stays_list F17.keep hl) (by omega) ht ⟨_, _, rfl, rfl⟩
            · exfalso
              rename_i hc
              simp at hc
              omega
          · rcases Nat.lt_or_ge p ns.length with q | q
            · exfalso
              rename_i hc
              simp at hc
              omega
            · have e0 : ns.getD p 0 = 0 := by rw [List.getD_eq_getElem?_getD, List.getElem?_eq_none q]; rfl
              rw [e0]
              exact f_int ⟨_, _, rfl, rfl⟩
        obtain ⟨tx, tk18, rfl, rfl⟩ := hv
        have hi6 : i < 6 := by omega
        obtain ⟨ri, hri⟩ := hws.row hi6
        obtain ⟨rj, hrj⟩ := hws.row hij2
        iterate 39 walk1
        rename_i h18 tk18 F18 N18 l19 h19 F19 N19 q19
        clear F17 N17 F18 N18
        refine at_nats (ps := baseC) N19 (.head _) (by repeat (first | exact .nil | refine .cons _ _ ?_)) hp15 (by omega) fun tb' => ?_
        replace N19 : News hp L h19 ((I4, riObj (p + 1) (15 - p - 1)) :: news) := fun x hx => N19 x (.tail _ hx)
        iterate 3 walk1
        refine ws_row N19 hws hi6 hri ?_
        iterate 1 walk1
        refine ws_set F19 N19 hsep hws hi6 hij2 hri fun h20 news2 F20 N20 hsep2 hws2 => ?_
        iterate 6 walk1
        refine ws_row N20 hws2 hi6 hri ?_
        iterate 1 walk1
        refine ws_get N20 hws2 hi6 hij2 hri fun tg => ?_
        iterate 14 walk1
        have eu : ∀ (W : Nat → Nat → Int) (x : Int), updM W i j x i j = x := fun W x => if_pos ⟨rfl, rfl⟩
        rw [eu]
        refine ws_set F20 N20 hsep2 hws2 hi6 hij2 hri fun h21 news3 F21 N21 hsep3 hws3 => ?_
        iterate 8 walk1
        refine ws_row N21 hws3 hi6 hri ?_
        iterate 1 walk1
        refine ws_cell N21 hws3 hi6 hij2 hri fun tc => ?_
        rw [eu]
        iterate 4 walk1
        refine ws_row N21 hws3 hij2 hrj ?_
        iterate 1 walk1
        refine ws_set F21 N21 hsep3 hws3 hij2 hi6 hrj fun h22 news4 F22 N22 hsep4 hws4 => ?_
        iterate 2 walk1
        refine hPo _ _ (lp_next ⟨h22, _, _, news4, rfl, F22, N22, hsep4, ?_, ?_, ?_, ?_, ⟨th, ?_⟩⟩)
        · have ew : wAt ns (p + 1) = wStep ns p i j (wAt ns p) := by
            show wStep ns p ((pairsF 6).getD p (0, 0)).1 ((pairsF 6).getD p (0, 0)).2 (wAt ns p) = _
            rw [eij]
          rw [ew]
          exact hws4
        all_goals repeat refine lk_miss (by kernel_rfl) ?_
        · exact lw
        · exact lp
        · exact ls
        · exact lh
end Mine
end
section
theorem Mine.freshT34 : True := by
  w_top off
  trivial
namespace Mine
variable {w : World} {mg mb : Str → Option Value}
theorem Gl.hideN {h₀ hp : Heap} {L : Addr} {m : Str → Option Value} {news : List (Addr × Obj)} (G : Gl w mg mb h₀) (F : Fr h₀ L hp m) (N : News h₀ L hp news) : Gl w mg mb (hideAll hp (news.map (·.1))) :=
  G.keeps fun b o e => hideAll_get _ (F.keep b o e) fun q => by
    obtain ⟨p, hp', rfl⟩ := List.mem_map.mp q
    rw [(N p hp').2.2] at e
    cases e
/-- back in the caller's ledger -/
theorem leave_led {h₀ hp h' : Heap} {L L₁ : Addr} {m m₁ : Str → Option Value} {as : List Addr} {news own : List (Addr × Obj)} (F : Fr h₀ L hp m) (ha : ∀ a ∈ as, a ≠ L ∧ h₀.get? a = none) (N : News h₀ L hp news) (hsep : ∀ p ∈ news, p.1 ∉ as) (F₁ : Fr (hideAll hp as) L₁ h' m₁) (N₁ : News (hideAll hp as) L₁ h' own) :
    Fr h₀ L h' m ∧ News h₀ L h' (own ++ news) ∧ ∀ p ∈ own, p.1 ∈ as ∨ hp.get? p.1 = none := by
  have k : Ext as hp h' := fun b o hb e => F₁.keep _ _ (hideAll_get _ e hb)
  have hL : ∃ o, hp.get? L = some o := let ⟨o, _, _, e, _⟩ := F.ns; ⟨o, e⟩
  obtain ⟨oL, eL⟩ := hL
  have new : ∀ p ∈ own, p.1 ∈ as ∨ hp.get? p.1 = none := fun p hp' => by
    by_cases q : p.1 ∈ as
    · exact .inl q
    · cases e : hp.get? p.1 with
      | none => exact .inr rfl
      | some o => have := hideAll_get as e q; rw [(N₁ p hp').2.2] at this; cases this
  refine ⟨fr_ext F ha k, fun p hp' => ?_, new⟩
  rcases List.mem_append.mp hp' with q | q
  · rcases new p q with c | c
    · exact ⟨(N₁ p q).1, ha _ c⟩
    · refine ⟨(N₁ p q).1, fun e => ?_, ?_⟩
      · rw [e, eL] at c; cases c
      · cases e : h₀.get? p.1 with
        | none => rfl
        | some o => have := F.keep _ _ e; rw [c] at this; cases this
  · exact ⟨k _ _ (hsep p q) (N p q).1, (N p q).2⟩
abbrev hdD (hsh : Int) (t : Tok) (H : Addr) : Obj := dictOf [⟨hsh, .str (Str.ofString "_headers") t, .ref H⟩] 1
theorem hdr_new {prog : Program} {A : Around} {E : Value → Shared → Prop} {hp : Heap} {gs : Array GenState} {dr : Drawn} {tk : Nat} {os : OsState} {h₀ : Heap} {L : Addr} {m : Str → Option Value} {news : List (Addr × Obj)} {Q : Value → Shared → Prop} (F : Fr h₀ L hp m) (N : News h₀ L hp news) (G : Gl w mg mb h₀) (hh : A.handled = none) (hroom : A.depth + 10 < recursionLimit)
    (h : ∀ x dx H hsh t h' tk', Fr h₀ L h' m → News h₀ L h' ((H, listOf #[] 0) :: (x, instObj 245 dx) :: (dx, hdD hsh t H) :: news) → (∀ p ∈ news, p.1 < dx) → dx < x → x < H → Q (.ref x) ⟨h', gs, dr, tk', os⟩) :
    wpAny (model prog w) A (call (.ref 245) [] []) Q E ⟨hp, gs, dr, tk, os⟩ := by
  refine call_cls F G.X N (by kernel_rfl) (fI := 139) (by kernel_rfl) (by kernel_rfl) fun x dx h' F' N' l1 l2 => ?_
  have G' : Gl w mg mb (hideAll h' [x, dx]) := Gl.hideN (news := [(x, instObj 245 dx), (dx, dictOf [] 0)]) G F' fun p hp => N' p (by
    rcases List.mem_cons.mp hp with rfl | hp
    · exact .head _
    · rw [List.mem_singleton.mp hp]; exact .tail _ (.head _))
  refine enterP (body := [_, _, _, _]) [("headers", .none), ("self", .ref x)] [(x, instObj 245 dx), (dx, dictOf [] 0)] (G.keeps F'.keep).nolimit (fun p hp => ?_) ((G.keeps F'.keep).X 139 _ rfl) rfl (codeRec_of (G.keeps F'.keep).X (by kernel_rfl)) ?_ (binds_K (G.keeps F'.keep).X rfl (by with_unfolding_all rfl) rfl rfl rfl) (by kernel_rfl) (fun L₁ h₁ tk₁ F₁ N₁ lD => ?_) (by kernel_rfl) (by kernel_rfl) (by kernel_rfl) (by kernel_rfl)
  · exact (N' p (by
      rcases List.mem_cons.mp hp with rfl | hp
      · exact .head _
      · rw [List.mem_singleton.mp hp]; exact .tail _ (.head _))).1
  · have hwt : (Code.builtin "type.__call__" { pos := [Value.ref 245] }).weight ≤ 3 := Nat.le_of_ble_eq_true (by kernel_rfl)
    show A.depth + Code.weight _ < recursionLimit
    omega
  replace F₁ : Fr (hideAll h' [x, dx]) L₁ h₁ (lk [("headers", .none), ("self", .ref x)]) := F₁
  replace N₁ : News (hideAll h' [x, dx]) L₁ h₁ [(x, instObj 245 dx), (dx, dictOf [] 0)] := N₁
  have X₀ := G'.X
  have fin : ∀ h₂ m₁ own, Fr (hideAll h' [x, dx]) L₁ h₂ m₁ → News (hideAll h' [x, dx]) L₁ h₂ own → Fr h₀ L h₂ m ∧ News h₀ L h₂ (own ++ news) := fun h₂ m₁ own F₂ N₂ => by
    have z := leave_led (as := [x, dx]) F' (fun a ha => ?_) (fun p hp => N' p (.tail _ (.tail _ hp))) (fun p hp q => ?_) F₂ N₂
    · exact ⟨z.1, z.2.1⟩
    · rcases List.mem_cons.mp ha with rfl | ha
      · exact (N' _ (.head _)).2
      · rw [List.mem_singleton.mp ha]; exact (N' (dx, _) (.tail _ (.head _))).2
    · have a := l1 p hp
      rcases List.mem_cons.mp q with q | q
      · exact Nat.ne_of_lt (Nat.lt_trans a l2) q
      · exact Nat.ne_of_lt a (List.mem_singleton.mp q)
  clear F N F' N'
  clear G
  iterate 34 walk1
  rename_i H h2 F2 N2 q2 h3 tk3 F3 N3
  have lHx : x < H := q2 (x, _) (.head _)
  have lHd : dx < H := q2 (dx, _) (.tail _ (.head _))
  refine set_dict (es := []) (n := 0) (es' := [⟨PyData.keyHash w.params (Str.ofString "_headers"), .str (Str.ofString "_headers") (tk3 + 1), .ref H⟩]) (n' := 1) F3 X₀ N3 (InstAt.of_news N3 (.tail _ (.head _)) (.tail _ (.tail _ (.head _)))) rfl (by kernel_rfl) (by kernel_rfl) (by kernel_rfl) (by kernel_rfl) rfl rfl (.tail (Nat.ne_of_gt lHd) (.tail (Nat.ne_of_gt l2) (.head fun _ hp => nomatch hp))) (by show 1 ≤ 1000; decide) fun h4 F4 N4 => ?_
  clear F2 N2 F3 N3 q2
  iterate 8 walk1
  refine f_for (by intro _; rfl) ?_
  walk1
  refine f_iter_list F4 N4 (PySem.IsL.isList (n := 0) (N4 (H, _) (.head _)).1) fun I h5 oI F5 N5 q5 hI => ?_
  have hh5 : ((A.under (Code.builtin "type.__call__" { pos := [Value.ref 245] })).deeper (envG (Str.ofString "Headers.__init__") (fdAt w 139).scope L₁ 139 (.ref 138) [])).handled = none := hh
  refine loop_rule lv_passes (fun j s' => s' = ⟨h5, gs, dr, tk3 + 2, os⟩) 0 rfl (fun i _ hi => absurd hi (Nat.not_lt_zero _)) fun s' hs => ?_
  subst hs
  refine next_list_end hh5 F5 N5 (fun p hp => Nat.ne_of_lt (q5 p hp)) hI (PySem.IsL.isList (n := 0) (N5 (H, _) (.tail _ (.head _))).1) rfl fun h6 F6 N6 => ⟨rfl, ?_⟩
  iterate 5 walk1
  refine ⟨rfl, ?_⟩
  obtain ⟨a, b⟩ := fin _ _ _ F6 N6
  exact h x dx H _ _ _ _ a b l1 l2 lHx
end Mine
end
section
theorem Mine.freshT36 : True := by
  w_top off
  trivial
namespace Mine
variable {w : World} {mg mb : Str → Option Value}
theorem slot_search : Slot "re.Pattern" "search" "re.Pattern.search" :=
  Slot.of (owner := "re.Pattern") (n := "search") (by rw [typeLookup_type, builtinLookup_eq_fast]; kernel_rfl) (by decide +kernel) (by decide +kernel) (by decide +kernel) (.inr (by decide +kernel)) (by rw [isSubtype_type]; kernel_rfl)
theorem entry_search : entryFor table "re.Pattern.search" = some Builtin.«re.Pattern.search» := entryFor_of_fast (by kernel_rfl)
theorem args_search (a b : Value) : argsOk "re.Pattern.search" ⟨[a, b], []⟩ := by unfold argsOk; kernel_rfl
theorem type_search : typeOf (.builtin "re.Pattern.search") = pure (.type "method_descriptor") := by kernel_rfl
theorem named_search (v : Value) : Builtin.Re.reNamed "re.Pattern.search" "search" ["string", "pos", "endpos"] 1 [v] [] = pure [some v, none, none] := by rfl
def nameCode : Array Nat := #[14, 10, 4, 1, 1, 22, 0, 31, 16, 127, 0, 13, 7, 22, 0, 31, 16, 127, 0, 1]
def valCode : Array Nat := #[14, 14, 4, 1, 1, 9, 4294966783, 0, 0, 2147483648, 0, 0, 0, 0, 0, 13, 11, 9, 4294966783, 0, 0, 2147483648, 0, 0, 0, 0, 0, 1]
theorem inSet_name (c : Nat) (h1 : 32 ≤ c) (h2 : c < 127) (n : Nat) (seen : Sre.Seen) : ∃ seen', Sre.inSet nameCode c (n + 3) 5 true seen = .ok (false, seen') := by
  refine ⟨((seen.add 22).add 16).add 0, ?_⟩
  have s1 : Sre.inSet nameCode c (n + 3) 5 true seen = if (decide (0 ≤ c) && decide (c ≤ 31)) = true then .ok (true, seen.add 22) else Sre.inSet nameCode c (n + 2) 8 true (seen.add 22) := rfl
  have s2 : Sre.inSet nameCode c (n + 2) 8 true (seen.add 22) = if (c == 127) = true then .ok (true, (seen.add 22).add 16) else Sre.inSet nameCode c (n + 1) 10 true ((seen.add 22).add 16) := rfl
  have s3 : Sre.inSet nameCode c (n + 1) 10 true ((seen.add 22).add 16) = .ok (!true, ((seen.add 22).add 16).add 0) := rfl
  have d1 : (decide (0 ≤ c) && decide (c ≤ 31)) = false := by rw [decide_eq_false (show ¬ c ≤ 31 by omega), Bool.and_false]
  have d2 : (c == 127) = false := by rw [beq_eq_false_iff_ne]; omega
  rw [s1, d1, if_neg (by decide), s2, d2, if_neg (by decide), s3]
  rfl
theorem charset_ok : ∀ c, c < 127 → 32 ≤ c → (decide (c < 256) && (valCode.getD (5 + (1 + c / 32)) 0).testBit (c % 32)) = false := by decide +kernel
theorem inSet_val (c : Nat) (h1 : 32 ≤ c) (h2 : c < 127) (n : Nat) (seen : Sre.Seen) : ∃ seen', Sre.inSet valCode c (n + 2) 5 true seen = .ok (false, seen') := by
  refine ⟨(seen.add 9).add 0, ?_⟩
  have s1 : Sre.inSet valCode c (n + 2) 5 true seen = if (decide (c < 256) && (valCode.getD (5 + (1 + c / 32)) 0).testBit (c % 32)) = true then .ok (true, seen.add 9) else Sre.inSet valCode c (n + 1) 14 true (seen.add 9) := rfl
  have s3 : Sre.inSet valCode c (n + 1) 14 true (seen.add 9) = .ok (!true, (seen.add 9).add 0) := rfl
  rw [s1, charset_ok c h2 h1, if_neg (by decide), s3]
  rfl
/-- a machine at its end, without a hit -/
def Done (m : Sre.M) : Prop := m.answer = some false ∧ m.frames = [] ∧ m.outcome = none
theorem admitted_none {m : Sre.M} (hin : ∀ c ∈ m.text.toList, ∀ seen, ∃ seen', Sre.inSet m.code c m.code.size 5 true seen = .ok (false, seen')) (hl : m.lim ≤ m.text.size) : ∀ (fuel s : Nat) (seen : Sre.Seen), ∃ seen', Sre.M.admitted m fuel s seen = .ok (none, seen')
  | 0, _, seen => ⟨seen, rfl⟩
  | fuel + 1, s, seen => by
    unfold Sre.M.admitted
    by_cases h : s ≥ m.lim
    · exact ⟨seen, by rw [if_pos h]⟩
    · rw [if_neg h]
      have hs : s < m.text.size := by omega
      obtain ⟨seen', e⟩ := hin (m.text.getD s 0) (by rw [Array.getD_eq_getD_getElem?, Array.getElem?_eq_getElem hs]; exact Array.getElem_mem_toList hs) seen
      rw [e]
      exact admitted_none hin hl fuel (s + 1) seen'
theorem attempt_done {m : Sre.M} (hf : m.hasFirstSet = true) (hin : ∀ c ∈ m.text.toList, ∀ seen, ∃ seen', Sre.inSet m.code c m.code.size 5 true seen = .ok (false, seen')) (hl : m.lim ≤ m.text.size) (h1 : m.frames = []) (h2 : m.outcome = none) : Done (m.attemptFrom 0 true) := by
  unfold Sre.M.attemptFrom
  rw [hf]
  obtain ⟨seen', e⟩ := admitted_none hin hl (m.lim + 1 - 0) 0 m.seen
  simp only [Bool.not_true, Bool.false_eq_true, if_false, e]
  exact ⟨rfl, h1, h2⟩
theorem search_name {text : Array Nat} (h : ∀ c ∈ text.toList, 32 ≤ c ∧ c < 127) : Done (Sre.forSearch nameCode text 0 0 text.size false) := by
  unfold Sre.forSearch
  dsimp only
  split
  · exact ⟨rfl, rfl, rfl⟩
  · exact attempt_done rfl (fun c hc seen => inSet_name c (h c hc).1 (h c hc).2 17 seen) (Nat.le_refl _) rfl rfl
theorem search_val {text : Array Nat} (h : ∀ c ∈ text.toList, 32 ≤ c ∧ c < 127) : Done (Sre.forSearch valCode text 0 0 text.size false) := by
  unfold Sre.forSearch
  dsimp only
  split
  · exact ⟨rfl, rfl, rfl⟩
  · exact attempt_done rfl (fun c hc seen => inSet_val c (h c hc).1 (h c hc).2 26 seen) (Nat.le_refl _) rfl rfl
theorem rules_done {M : Model} {A : Around} {E : Value → Shared → Prop} {s : Shared} {b : Nat → Bool} {n : Nat → String} {Q : PUnit → Shared → Prop} (h : Q PUnit.unit s) : ∀ l : List Nat, wpAny M A (forIn l PUnit.unit fun i __s => if b i = true then do rule (n i); pure (ForInStep.yield PUnit.unit) else pure (ForInStep.yield PUnit.unit)) Q E s
  | [] => by rw [List.forIn_nil]; exact wpAny_pure h
  | i :: l => by
    rw [List.forIn_cons]
    refine wpAny_bind ?_
    split
    · exact wpAny_bind (wpAny_rule (wpAny_pure (rules_done h l)))
    · exact wpAny_pure (rules_done h l)
theorem runToEnd_none {M : Model} {A : Around} {E : Value → Shared → Prop} {s : Shared} {m : Sre.M} {Q : Option Sre.M → Shared → Prop} (hd : Done m) (h : Q none s) : wpAny M A (Builtin.Re.reRunToEnd m) Q E s := by
  obtain ⟨a, b, c⟩ := hd
  have r : m.runFor Builtin.Re.reTurnSteps = { m with outcome := some .failed } := by
    obtain ⟨code, text, lim, start, ls, wt, ma, pc, pos, hnd, om, marks, lm, li, loops, inner, frames, weight, answer, seen, outcome⟩ := m
    subst a b c
    rfl
  unfold Builtin.Re.reRunToEnd
  refine wpAny_bind (wpAny_of_eq (a := { m with outcome := some .failed }) ?_ ?_)
  · rw [show (2 ^ 64 : Nat) = (2 ^ 64 - 1) + 1 from rfl]
    unfold Builtin.Re.reDrive
    rw [r]
    rfl
  · dsimp only
    exact wpAny_bind (rules_done (wpAny_pure h) _)
theorem f_search {prog : Program} {A : Around} {E : Value → Shared → Prop} {hp : Heap} {gs : Array GenState} {dr : Drawn} {tk : Nat} {os : OsState} {P T : Addr} {s : Str} {t : Tok} {code : Array Nat} {od : Option Addr} {sl : Array (Option Value)} {p0 p1 p3 p4 : Value} {u v : Tok} {oT : Obj} {its : Array Value} {n : Nat} {Q : Value → Shared → Prop}
    (hP : hp.get? P = some ⟨.type "re.Pattern", od, .fields #[p0, p1, .int 0 u, p3, p4, .ref T, .int 0 v], sl⟩) (hT : hp.get? T = some oT) (hd : oT.data = .seq its n) (hc : (its.map Builtin.Re.reRawOf).map (·.toNat) = code)
    (hs : s.cps.size < 2 ^ 60) (hm : Done (Sre.forSearch code s.cps 0 0 s.cps.size false)) (h : Q .none ⟨hp, gs, dr, tk, os⟩) : wpAny (model prog w) A (call (.builtin "re.Pattern.search") [.ref P, .str s t]) Q E ⟨hp, gs, dr, tk, os⟩ := by
  refine wpAny_call_entry slot_search ⟨_, hP, rfl⟩ entry_search ?_ (args_search _ _)
  unfold Builtin.«re.Pattern.search»
  refine wpAny_bind (wpAny_mono (Q := fun tg s' => tg = (⟨.ref P, .str s t, code, s.cps, 0, 0, 0, s.cps.size⟩ : Builtin.Re.ReTarget) ∧ s' = ⟨hp, gs, dr, tk, os⟩) ?tgt (fun tg s' htg => ?_) fun _ _ x => x)
  case tgt =>
    unfold Builtin.Re.reTarget
    dsimp only
    refine wpAny_bind (wpAny_of_eq (named_search _) ?_)
    dsimp only
    refine wpAny_bind (wpAny_pure (wpAny_bind (wpAny_pure (wpAny_bind ?_))))
    unfold fieldsOf
    refine wpAny_bind (wpAny_load hP (wpAny_pure ?_))
    refine wpAny_bind (wpAny_of_eq (a := (s.cps, 0)) rfl ?_)
    dsimp only
    have c1 : (Builtin.Re.reRawNat (#[p0, p1, Value.int 0 u, p3, p4, Value.ref T, Value.int 0 v].getD 6 Value.none) == 0 && (0 : Nat) == 1) = false := rfl
    have c2 : (Builtin.Re.reRawNat (#[p0, p1, Value.int 0 u, p3, p4, Value.ref T, Value.int 0 v].getD 6 Value.none) == 1 && (0 : Nat) == 0) = false := rfl
    rw [c1, if_neg Bool.false_ne_true, c2, if_neg Bool.false_ne_true]
    refine wpAny_bind (wpAny_of_eq (a := ()) rfl ?_)
    refine wpAny_bind ?_
    show wpAny _ _ (seqItems? (.ref T) >>= _) _ _ _
    refine wpAny_bind (wpAny_seqItems hT hd ?_)
    refine wpAny_pure (wpAny_pure ⟨?_, rfl⟩)
    have l1 : min ((2 : Int) ^ 63 - 1).toNat s.cps.size = s.cps.size := Nat.min_eq_right (Nat.le_trans (Nat.le_of_lt hs) (by decide))
    have l0 : min (0 : Int).toNat s.cps.size = 0 := Nat.zero_min _
    show (⟨_, _, Array.map (fun x => x.toNat) (Array.map Builtin.Re.reRawOf its), _, _, _, min (0 : Int).toNat s.cps.size, min ((2 : Int) ^ 63 - 1).toNat s.cps.size⟩ : Builtin.Re.ReTarget) = _
    rw [l1, l0, hc]
    rfl
  obtain ⟨rfl, rfl⟩ := htg
  unfold Builtin.Re.reAnswer
  refine wpAny_bind (runToEnd_none hm ?_)
  exact wpAny_pure ⟨_, rfl, h⟩
end Mine
end
section
local macro_rules | `(tactic| walk_at "zz") => `(tactic| fail)
theorem Mine.freshT35 : True := by
  w_top off
  trivial
namespace Mine
variable {w : World} {mg mb : Str → Option Value}
theorem plain_pat : PlainAttrs "re.Pattern" := ⟨⟨"object.__getattribute__", by rw [typeLookup_type, builtinLookup_eq_fast]; kernel_rfl, by decide +kernel⟩, by rw [typeLookup_type, builtinLookup_eq_fast]; kernel_rfl⟩
theorem pat111 {h : Heap} (X : (KF w).In h) : ∃ p0 p1 u p3 p4 v oT its n, h.get? 111 = some ⟨.type "re.Pattern", none, .fields #[p0, p1, .int 0 u, p3, p4, .ref 110, .int 0 v], #[]⟩ ∧ h.get? 110 = some oT ∧ oT.data = .seq its n ∧ (its.map Builtin.Re.reRawOf).map (·.toNat) = nameCode :=
  ⟨_, _, _, _, _, _, _, _, _, X 111 _ rfl, X 110 _ rfl, rfl, by simp [Builtin.Re.reRawOf, nameCode]⟩
theorem pat116 {h : Heap} (X : (KF w).In h) : ∃ p0 p1 u p3 p4 v oT its n, h.get? 116 = some ⟨.type "re.Pattern", none, .fields #[p0, p1, .int 0 u, p3, p4, .ref 115, .int 0 v], #[]⟩ ∧ h.get? 115 = some oT ∧ oT.data = .seq its n ∧ (its.map Builtin.Re.reRawOf).map (·.toNat) = valCode :=
  ⟨_, _, _, _, _, _, _, _, _, X 116 _ rfl, X 115 _ rfl, rfl, by simp [Builtin.Re.reRawOf, valCode]⟩
theorem conv_spec {prog : Program} {A : Around} {R : Result → Shared → Prop} {hp : Heap} {gs : Array GenState} {dr : Drawn} {tk : Nat} {os : OsState} {x : Addr} {s : Str} {t : Tok} {b : Bool} (G : Gl w mg mb hp) (hh : A.handled = none) (hroom : A.depth + 10 < recursionLimit) (hs : ∀ c ∈ s.cps.toList, 32 ≤ c ∧ c < 127) (hz : s.cps.size < 2 ^ 60)
    (h : ∀ h' tk', Ext [] hp h' → R (.ok (.ret (.str s t))) ⟨h', gs, dr, tk', os⟩) : codeAny (model prog w) A (.call (.ref 146) ⟨[.ref x, .str s t], [("name", .bool b)]⟩) R ⟨hp, gs, dr, tk, os⟩ := by
  refine enter (body := [_, _]) [("name", .bool b), ("value", .str s t), ("self", .ref x)] G (by rfl) (by kernel_rfl) (by omega) (.of_eq (by kernel_rfl)) (by kernel_rfl) (fun L h₁ tk F N => ?_) (by kernel_rfl) (by kernel_rfl) (by kernel_rfl) (by kernel_rfl)
  have X₀ := G.X
  iterate 14 walk1
  cases b with
  | true =>
    iterate 15 walk1
    rename_i h2 tk2 F2 N2
    obtain ⟨p0, p1, u, p3, p4, v, oT, its, n, hP, hT, hd, hc⟩ := pat111 (X₀.keeps F2.keep)
    refine getMethod_builtin (T := "re.Pattern") ⟨_, hP, rfl⟩ plain_pat slot_search type_search (fun a e => by cases e; exact ⟨_, hP, rfl⟩) ?_
    iterate 4 walk1
    refine f_search hP hT hd hc hz (search_name hs) ?_
    iterate 10 walk1
    exact h _ _ fun b o _ e => F2.keep b o e
  | false =>
    iterate 15 walk1
    rename_i h2 tk2 F2 N2
    obtain ⟨p0, p1, u, p3, p4, v, oT, its, n, hP, hT, hd, hc⟩ := pat116 (X₀.keeps F2.keep)
    refine getMethod_builtin (T := "re.Pattern") ⟨_, hP, rfl⟩ plain_pat slot_search type_search (fun a e => by cases e; exact ⟨_, hP, rfl⟩) ?_
    iterate 4 walk1
    refine f_search hP hT hd hc hz (search_val hs) ?_
    iterate 10 walk1
    exact h _ _ fun b o _ e => F2.keep b o e
end Mine
end
section
theorem Mine.freshT37 : True := by
  w_top off
  trivial
namespace Mine
variable {w : World} {mg mb : Str → Option Value}
/-- a call of a def whose `**` takes nothing -/
theorem enterA {prog : Program} {A : Around} {R : Result → Shared → Prop} {hp : Heap} {gs : Array GenState} {dr : Drawn} {tk : Nat} {os : OsState} {name qual : Str} {params : Arguments} {body : List Stmt} {sc : Scope} {dV kV doc pm cdv ct : Value} {an : Option Addr} {fo : Obj} {f : Addr} {args : Args} (mk : Addr → List (Str × Value)) (hid : List (Addr × Obj))
    (hlim : hp.NoLimit) (hh : ∀ p ∈ hid, hp.get? p.1 = some p.2)
    (ho : hp.get? f = some fo) (hd : fo.data = .func (fnX name qual params body sc [] dV kV doc pm an cdv ct)) (hcd : hp.CodeRec cdv qual) (hroom : A.depth < recursionLimit)
    (hbind : bindArgs (fnX name qual params body sc [] dV kV doc pm an cdv ct) args = (alloc emptyDict >>= fun d => pure (mk d).reverse)) (hloc : ∀ d, ((mk d).all fun x => decide (sc.names.lookup x.1 = some .local)) = true)
    (h : ∀ d L h₁ tk, Fr (hideAll hp (hid.map (·.1))) L h₁ (lk (mk d)) → News (hideAll hp (hid.map (·.1))) L h₁ ((d, dictOf [] 0) :: hid) → (∀ p ∈ hid, p.1 < d) → d < L → d = hp.objs.size →
      wpAny (model prog w) (A.deeper (envG qual sc L f cdv [])) (execs body (envG qual sc L f cdv [])) (Rt R) (Lv (model prog w) A (envG qual sc L f cdv []) R) ⟨h₁, gs, dr, tk, os⟩)
    (hco : sc.isCoroutine = false) (hgen : sc.isGenerator = false) (hk : sc.kind = .function)
    (hcell : (sc.names.all fun x => !(x.2 == .cell)) = true) : codeAny (model prog w) A (.call (.ref f) args) R ⟨hp, gs, dr, tk, os⟩ := by
  refine codeAny_call_function (fd := fnX name qual params body sc [] dV kV doc pm an cdv ct) (body := body) hroom ho hd hco hgen rfl hcd ?_
  rw [hbind]
  refine wpAny_bind (wpAny_alloc (wpAny_pure ?_))
  have up : ∀ b o, hp.get? b = some o → (hp.push emptyDict).get? b = some o := fun b o e => Heap.get?_push_of_some _ e
  refine wpAny_newFunctionEnv (fun x hx e => by have := List.all_eq_true.mp hcell x hx; rw [e] at this; cases this) (fun x hx => locs (hloc _) x (List.mem_reverse.mp hx)) (fun h₁ hns hs => ?_) hk
  refine ⟨(hlim.keeps up).fresh _ hs, codeAny_func ?_⟩
  dsimp only at hns hs
  rw [List.reverse_reverse] at hns
  have hL : (hp.push emptyDict).objs.size = hp.objs.size + 1 := Heap.size_push ..
  have old : ∀ b o, (hp.push emptyDict).get? b = some o → h₁.get? b = some o := fun b o e => hs.extBut b o (Nat.ne_of_lt (Heap.lt_size e)) (Heap.get?_push_of_some _ e)
  have hlt : hp.objs.size < (hp.push emptyDict).objs.size := by rw [hL]; exact Nat.lt_succ_self _
  have e := h hp.objs.size (hp.push emptyDict).objs.size h₁ (tk + (mk hp.objs.size).reverse.length) ⟨by rw [lk_eq]; exact hns, fun b o e => old b o (up b o (of_hideAll _ e)), by rw [hideAll_size]; exact Nat.le_of_lt hlt⟩ (fun p hp' => ?_) (fun p hp' => Heap.lt_size (hh p hp')) hlt rfl
  · rw [envG_eq] at e
    exact e
  · rcases List.mem_cons.mp hp' with rfl | q
    · refine ⟨old _ _ (Heap.get?_push_size _ rfl), Nat.ne_of_lt hlt, ?_⟩
      cases q : (hideAll hp (hid.map (·.1))).get? hp.objs.size with
      | none => rfl
      | some o => have := Heap.lt_size (of_hideAll _ q); exact absurd this (Nat.lt_irrefl _)
    · exact ⟨old _ _ (up _ _ (hh p q)), Nat.ne_of_lt (Nat.lt_trans (Heap.lt_size (hh p q)) hlt), hideAll_none _ (List.mem_map_of_mem q)⟩
theorem add_spec {prog : Program} {A : Around} {R : Result → Shared → Prop} {hp : Heap} {gs : Array GenState} {dr : Drawn} {tk : Nat} {os : OsState} {x dx H : Addr} {n v : Str} {t u : Tok} {its : Array Value} {ep : Nat} {hsh : Int} {th : Tok} (G : Gl w mg mb hp) (hh : A.handled = none) (hroom : A.depth + 20 < recursionLimit)
    (hn : ∀ c ∈ n.cps.toList, 32 ≤ c ∧ c < 127) (hnz : n.cps.size < 100) (hv : ∀ c ∈ v.cps.toList, 32 ≤ c ∧ c < 127) (hvz : v.cps.size < 1000) (hx : hp.get? x = some (instObj 245 dx)) (hdx : hp.get? dx = some (hdD hsh th H)) (hH : hp.get? H = some (listOf its ep)) (hK : (KF w).lookup H = none) (hz : its.size ≤ 1000)
    (h : ∀ h' tk' T u', Ext [H] hp h' → hp.get? T = none → h'.get? T = some (tupOf #[.str n t, .str v u']) → h'.get? H = some (listOf (its.push (.ref T)) (ep + 1)) → R (.ok (.ret .none)) ⟨h', gs, dr, tk', os⟩) :
    codeAny (model prog w) A (.call (.ref 242) ⟨[.ref x, .str n t, .str v u], []⟩) R ⟨hp, gs, dr, tk, os⟩ := by
  have G' : Gl w mg mb (hideAll hp [H]) := G.but (as := [H]) (fun D hD => by rw [List.mem_singleton.mp hD]; exact ⟨hK, _, hH, (fun _ _ e => by cases e), fun e => by cases e⟩) fun b o hb e => hideAll_get [H] e hb
  refine enterA (body := [_, _, _, _]) (fun d => [("_params", .ref d), ("_value", .str v u), ("_name", .str n t), ("self", .ref x)]) [(H, listOf its ep)] G.nolimit (fun p hp => by rw [List.mem_singleton.mp hp]; exact hH) (G.X 242 _ rfl) rfl (codeRec_of G.X (by kernel_rfl)) (by omega) (by kernel_rfl) (fun _ => by kernel_rfl) (fun d L h₁ tk F N lD lL hdS => ?_) (by kernel_rfl) (by kernel_rfl) (by kernel_rfl) (by kernel_rfl)
  replace F : Fr (hideAll hp [H]) L h₁ _ := F
  replace N : News (hideAll hp [H]) L h₁ [(d, dictOf [] 0), (H, listOf its ep)] := N
  have X₀ := G'.X
  have xH : x ∉ [H] := fun q => by rw [List.mem_singleton.mp q, hH] at hx; cases hx
  have dH : dx ∉ [H] := fun q => by
    rw [List.mem_singleton.mp q, hH] at hdx
    have e2 := congrArg Obj.data (Option.some.inj hdx)
    cases e2
  have hx' := hideAll_get [H] hx xH
  have hdx' := hideAll_get [H] hdx dH
  have dlow : (d == sysModules) = false := by
    have := modules_low G.nolimit
    rw [beq_eq_false_iff_ne, hdS]
    exact Nat.ne_of_gt this
  clear G
  iterate 19 walk1
  rename_i P h2 F2 N2 q2 h3 tk3 F3 N3
  refine method_inst (f := 146) F3 X₀ ⟨F3.keep _ _ hx', rfl, rfl, F3.keep _ _ hdx'⟩ (by kernel_rfl) (by kernel_rfl) (by kernel_rfl) (by rfl) ?_
  dsimp only
  refine callWith_KW X₀ (by kernel_rfl) (by kernel_rfl) ?_
  iterate 7 walk1
  refine wpAny_call ?_
  show codeAny (model prog w) _ (.call (.ref 146) ⟨[.ref x, .str v u], [("name", .bool false)]⟩) _ _
  refine conv_spec (G'.keeps F3.keep) hh (room1 hroom) hv (Nat.lt_trans hvz (by decide)) fun h4 tk4 k4 => ?_
  have F4 := fr_ext (as := []) F3 (fun _ h => nomatch h) k4
  have N4 := news_keep N3 fun b o e => k4 b o List.not_mem_nil e
  clear F3 N3 F2 N2
  iterate 11 walk1
  rename_i h5 tk5 F5 N5
  refine f_append F5 N5 (.head fun p hp => Nat.ne_of_lt (q2 p hp)) (fun h6 F6 N6 => ?_) (by decide)
  clear F5 N5 F4 N4
  iterate 7 walk1
  have hd6 := (N6 (d, dictOf [] 0) (.tail _ (.head _))).1
  refine getMethod_builtin (T := "dict") ⟨_, hd6, rfl⟩ PySem.F.plainAttrs_dict PySem.F.slot_dict_items PySem.F.type_dict_items (fun a e => by cases e; exact ⟨_, hd6, rfl⟩) ?_
  iterate 1 walk1
  have hat : ∀ {h : Heap}, h.get? d = some (dictOf [] 0) → h.DictAt (strKind prog w) d [] 0 := fun e => ⟨_, #[], e, ⟨rfl, rfl, rfl⟩, rfl, (fun e he => nomatch he), .nil, List.nodup_nil⟩
  refine call_meetsIn PySem.F.slot_dict_items ⟨_, hd6, rfl⟩ PySem.F.entry_dict_items (PySem.F.args_dict_items_1 _) (meets_dict_items (strKind prog w) d dlow) ⟨⟨[], (hat hd6).dictOf⟩, ?_⟩
  have F7 := F6.push { cls := .type "dict_items", data := .fields #[.ref d] }
  have N7 := News.push F6 N6 { cls := .type "dict_items", data := .fields #[.ref d] }
  refine wpAny_pyIter_items (knd := strKind prog w) (d := d) (kvs := []) (ep := 0) ⟨_, Heap.get?_push_size _ rfl, rfl, rfl⟩ ((hat hd6).push _) ?_
  have F8 := F7.push { cls := .type "dict_itemiterator", data := .fields #[.none, .bool false, .ref d, .int 0 0, .int 0 0, .int 0 0, .none, .none] }
  have N8 := News.push F7 N7 { cls := .type "dict_itemiterator", data := .fields #[.none, .bool false, .ref d, .int 0 0, .int 0 0, .int 0 0, .none, .none] }
  refine loop_rule lv_passes (fun j s' => s' = ⟨_, gs, dr, tk5, os⟩) 0 rfl (fun i _ hi => absurd hi (Nat.not_lt_zero _)) fun s' hs => ?_
  subst hs
  have z8 := N8 _ (.head _)
  refine wpAny_pyNext_items_end (knd := strKind prog w) (d := d) (i := 0) (ep := 0) (kvs := []) hh z8.1 (hat (N8 (d, dictOf [] 0) (.tail _ (.tail _ (.tail _ (.head _))))).1) rfl fun h9 hb => ⟨rfl, ?_⟩
  have k9 : Ext [_] _ h9 := fun b o hb' e => hb b o (fun q => hb' (List.mem_singleton.mpr q)) e
  have F9 := fr_ext F8 (fun a ha => by rw [List.mem_singleton.mp ha]; exact z8.2) k9
  have N9 : News (hideAll hp [H]) L h9 [(P, listOf (#[].push (Value.str v u)) (0 + 1)), (H, listOf its ep)] := news_ext N8 k9 fun p hp' => by
    have hm : p ∈ [(P, listOf (#[].push (Value.str v u)) (0 + 1)), (d, dictOf [] 0), (H, listOf its ep)] := by
      rcases List.mem_cons.mp hp' with rfl | hp'
      · exact .head _
      · exact .tail _ (.tail _ hp')
    exact .inl ⟨.tail _ (.tail _ hm), fun q => Nat.ne_of_lt (Heap.lt_size (N7 p (.tail _ hm)).1) (List.mem_singleton.mp q)⟩
  clear N8 F8 N7 F7 N6 F6 z8 k9
  iterate 6 walk1
  refine get_own (C := 245) F9 X₀ ⟨F9.keep _ _ hx', rfl, rfl, F9.keep _ _ hdx'⟩ (by kernel_rfl) (by kernel_rfl) (attr := none) (by kernel_rfl) (by kernel_rfl) (by rfl) (by rfl) ?_
  refine PySem.Calls.getMethod_list_append (N9 (H, _) (.tail _ (.head _))).1 rfl rfl ?_
  iterate 6 walk1
  refine method_inst (f := 146) F9 X₀ ⟨F9.keep _ _ hx', rfl, rfl, F9.keep _ _ hdx'⟩ (by kernel_rfl) (by kernel_rfl) (by kernel_rfl) (by rfl) ?_
  dsimp only
  refine callWith_KW X₀ (by kernel_rfl) (by kernel_rfl) ?_
  iterate 7 walk1
  refine wpAny_call ?_
  show codeAny (model prog w) _ (.call (.ref 146) ⟨[.ref x, .str n t], [("name", .bool true)]⟩) _ _
  refine conv_spec (G'.keeps F9.keep) hh (room1 hroom) hn (Nat.lt_trans hnz (by decide)) fun h10 tk10 k10 => ?_
  have F10 := fr_ext (as := []) F9 (fun _ h => nomatch h) k10
  have N10 := news_keep N9 fun b o e => k10 b o List.not_mem_nil e
  clear F9 N9
  iterate 7 walk1
  walk1
  refine PyProof.Rows.join_list (ys := [v]) (PySem.IsL.isList (n := 0 + 1) (N10 (P, _) (.head _)).1) (.cons v u .nil) (by have e1 : v.length = v.cps.size := rfl; have e2 : (Str.ofString "; ").length = 2 := (by decide); simp; omega) fun t' k => ?_
  have ej : Txt.join (Str.ofString "; ") [v] = v := rfl
  rw [ej]
  iterate 2 walk1
  rename_i T h11 F11 N11 q11
  have lHT : H < T := q11 (H, _) (.tail _ (.head _))
  have lHP : H < P := q2 (H, _) (.tail _ (.head _))
  iterate 1 walk1
  refine f_append F11 N11 (.tail (Nat.ne_of_gt lHT) (.tail (Nat.ne_of_gt lHP) (.head fun _ hp => nomatch hp))) (fun h12 F12 N12 => ?_) (Nat.le_trans hz (by decide))
  iterate 3 walk1
  have zT := N12 (T, _) (.head _)
  refine h h12 _ T t' (fun b o hb e => F12.keep _ _ (hideAll_get [H] e hb)) ?_ zT.1 (N12 (H, _) (.tail _ (.tail _ (.head _)))).1
  cases e : hp.get? T with
  | none => rfl
  | some o =>
    have := hideAll_get [H] e (fun q => Nat.ne_of_gt lHT (List.mem_singleton.mp q))
    rw [zT.2.2] at this
    cases this
theorem nmK_cellH {prog : Program} {A : Around} {E : Value → Shared → Prop} {hp : Heap} {gs : Array GenState} {dr : Drawn} {tk : Nat} {os : OsState} {h₀ : Heap} {C c : Addr} {l : List (Str × Value)} {sc : Scope} {cl : List (Str × Addr)} {env : Env} {x : Str} {pos : Pos} {v : Value} {Q : Value → Shared → Prop} (F : Fr h₀ C hp (lk l)) (hp' : plainS sc = true) (hk : kindS sc x = some .cell) (hd : (x == ("__debug__" : Str)) = false) (hc : cl.lookup x = some c) (hm : h₀.IsCell c (some v)) (h : Q v ⟨hp, gs, dr, tk, os⟩) :
    wpAny (model prog w) A (eval (.Name x pos) (envK sc cl C env)) Q E ⟨hp, gs, dr, tk, os⟩ := by
  rw [envK_eq]
  obtain ⟨o, ho, hd'⟩ := hm
  exact wpAny_Name (wpAny_loadName_cell (kind_S hp') hk hc ⟨o, F.keep _ _ ho, hd'⟩ h) hd
end Mine
end
local macro_rules | `(tactic| walk_at "eval Constant int") => `(tactic| first | refine Mine.f_intA 0 ?_ | refine Mine.f_intA 1 ?_ | refine Mine.f_intA 2 ?_ | refine Mine.f_intA 3 ?_ | refine Mine.f_intA 4 ?_ | refine Mine.f_intA 5 ?_ | refine Mine.f_intA 6 ?_ | refine Mine.f_intA 15 ?_)
local macro_rules | `(tactic| walk_at "eval Name") => `(tactic| (refine Mine.nm_cell (by assumption) (by kernel_rfl) (by kernel_rfl) (by decide) (by with_unfolding_all rfl) (by first | assumption | (with_unfolding_all (repeat (first | exact List.Mem.head _ | apply List.Mem.tail)); done)) (by assumption) ?_))
local macro_rules | `(tactic| walk_at "eval Name") => `(tactic| first | refine Mine.nmK_loc (by assumption) (by kernel_rfl) (by kernel_rfl) (by decide) (by first | exact Mine.lk_hit | exact Mine.lk_miss (by kernel_rfl) Mine.lk_hit) ?_ | refine Mine.nmK_cellH (by assumption) (by kernel_rfl) (by kernel_rfl) (by decide) (by with_unfolding_all rfl) (by assumption) ?_ | refine Mine.nmK_blt (by assumption) (by assumption) (by kernel_rfl) (by kernel_rfl) (by decide) (by kernel_rfl) (by boot_fast) (by decide) ?_)
section
theorem Mine.freshT38 : True := by
  w_top off
  trivial
namespace Mine
variable {w : World} {mg mb : Str → Option Value}
def EntB (own : List (Addr × Obj)) (refs : List Value) (ents : List (Str × Str)) : Prop := refs.length = ents.length ∧ ∀ (i : Nat) (e : Str × Str), ents[i]? = some e → ∃ (T : Addr) (t u : Tok), refs[i]? = some (.ref T) ∧ (T, tupOf #[.str e.1 t, .str e.2 u]) ∈ own
def pickF (ents : List (Str × Str)) (n : Str) : List Str := (ents.filter fun e => Txt.lower e.1 == n).map (·.2)
local macro_rules | `(tactic| walk_at "call builtin:str.lower") => `(tactic| (refine PyProof.Rows.SCL.lower (by omega) ?_; intro _))
theorem strs_snoc : ∀ {vs : List Value} {ys : List Str} {s : Str} {t : Tok}, StrsAre vs ys → StrsAre (vs ++ [Value.str s t]) (ys ++ [s])
  | _, _, s, t, .nil => .cons s t .nil
  | _, _, s, t, .cons y u r => .cons y u (strs_snoc r)
theorem pickF_pos {ents : List (Str × Str)} {j : Nat} {e : Str × Str} {n : Str} (h : ents[j]? = some e) (hc : (Txt.lower e.1 == n) = true) : pickF (ents.take (j + 1)) n = pickF (ents.take j) n ++ [e.2] := by
  unfold pickF
  rw [List.take_add_one, h, List.filter_append, List.map_append]
  simp [hc]
theorem pickF_neg {ents : List (Str × Str)} {j : Nat} {e : Str × Str} {n : Str} (h : ents[j]? = some e) (hc : ¬ (Txt.lower e.1 == n) = true) : pickF (ents.take (j + 1)) n = pickF (ents.take j) n := by
  unfold pickF
  rw [List.take_add_one, h, List.filter_append, List.map_append]
  simp [hc]
theorem li_self {prog : Program} {A : Around} {I H : Addr} {i : Nat} {oI : Obj} (hI : LI oI H i) : ∀ (s' : Shared) (Q' E' : Value → Shared → Prop), s'.heap.get? I = some oI → Q' (.ref I) s' → wpAny (model prog w) A (pyIter (.ref I)) Q' E' s' :=
  fun _ _ _ e h => wpAny_pyIter_listiter (l := H) (i := i) ⟨oI, e, hI.c, hI.d⟩ h
local macro_rules | `(tactic| walk_at "subscriptTail") => `(tactic| first | refine at_tup0 (by assumption) ?_ | refine at_tup1 (by assumption) ?_)
theorem getall_spec {prog : Program} {A : Around} {R : Result → Shared → Prop} {hp : Heap} {gs : Array GenState} {dr : Drawn} {tk : Nat} {os : OsState} {x dx H : Addr} {n : Str} {t : Tok} {refs : List Value} {ents : List (Str × Str)} {ep : Nat} {hsh : Int} {th : Tok} {own : List (Addr × Obj)} (G : Gl w mg mb hp) (hh : A.handled = none) (hroom : A.depth + 20 < recursionLimit)
    (hn : ∀ c ∈ (Txt.lower n).cps.toList, 32 ≤ c ∧ c < 127) (hnz : n.length < 100) (hx : hp.get? x = some (instObj 245 dx)) (hdx : hp.get? dx = some (hdD hsh th H)) (hH : hp.get? H = some (listOf refs.toArray ep)) (hz : refs.length ≤ 1000)
    (hE : EntB own refs ents) (hO : Held own hp) (hl : ∀ e ∈ ents, e.1.length < 100)
    (h : ∀ h' tk' S vs e', Ext [] hp h' → Fresh hp h' [(S, listOf vs.toArray e')] → StrsAre vs (pickF ents (Txt.lower n)) → R (.ok (.ret (.ref S))) ⟨h', gs, dr, tk', os⟩) :
    codeAny (model prog w) A (.call (.ref 184) ⟨[.ref x, .str n t], []⟩) R ⟨hp, gs, dr, tk, os⟩ := by
  refine enterC (body := [_, _]) [("self", .ref x), ("name", .str n t)] [("self", .ref x)] [("name", .str n t)] (fun L => [("name", L + 1)]) [] G.nolimit (fun _ hp => nomatch hp) (G.X 184 _ rfl) rfl (codeRec_of G.X (by kernel_rfl)) (by omega) (.of_eq (by kernel_rfl)) (by kernel_rfl) (by kernel_rfl) (by intro L; kernel_rfl) (by kernel_rfl) (by decide) (fun L h₁ tk cells F N Y lD => ?_) (by kernel_rfl) (by kernel_rfl) (by kernel_rfl)
  obtain ⟨o1, rfl, d1⟩ := Y.one
  have X₀ := G.X
  replace F : Fr hp L h₁ (lk [("self", .ref x)]) := F
  replace N : News hp L h₁ [(L + 1, o1)] := N
  rw [lk_hit] at d1
  clear Y lD
  iterate 4 walk1
  refine method_inst (f := 146) F X₀ ⟨F.keep _ _ hx, rfl, rfl, F.keep _ _ hdx⟩ (by kernel_rfl) (by kernel_rfl) (by kernel_rfl) (by rfl) ?_
  dsimp only
  refine callWith_KW X₀ (by kernel_rfl) (by kernel_rfl) ?_
  iterate 11 walk1
  refine wpAny_call ?_
  show codeAny (model prog w) _ (.call (.ref 146) ⟨[.ref x, .str (Txt.lower n) _], [("name", .bool true)]⟩) _ _
  refine conv_spec (G.keeps F.keep) hh (room1 hroom) hn (by have a : (Txt.lower n).length = (Txt.lower n).cps.size := rfl; have := len_lower n; omega) fun h2 tk2 k2 => ?_
  have F2 := fr_ext (as := []) F (fun _ h => nomatch h) k2
  have N2 := news_keep N fun b o e => k2 b o List.not_mem_nil e
  clear F N
  refine' st_cell F2 N2 (by kernel_rfl) (by kernel_rfl) (by rfl) ?U d1 ?_
  case U => exact .head fun _ hp => nomatch hp
  intro h3 o3 F3 N3 d3
  iterate 3 walk1
  refine f_comp [("name", L + 1)] (by intro _; rfl) (by kernel_rfl) (by rfl) (by decide) ?_
  iterate 2 walk1
  refine get_own (C := 245) F3 X₀ ⟨F3.keep _ _ hx, rfl, rfl, F3.keep _ _ hdx⟩ (by kernel_rfl) (by kernel_rfl) (attr := none) (by kernel_rfl) (by kernel_rfl) (by rfl) (by rfl) ?_
  have hLH := PySem.IsL.isList (n := ep) (F3.keep _ _ hH)
  refine f_iter_list F3 N3 hLH fun I h4 oI F4 N4 q4 hI => ?_
  have hcell : h4.IsCell (L + 1) (some (.str (Txt.lower n) _)) := ⟨o3, (N4 (L + 1, o3) (.tail _ (.head _))).1, d3⟩
  have hIH : H ≠ I := fun e => by have := (N4 (I, oI) (.head _)).2.2; rw [← e, hH] at this; cases this
  have hOI : ∀ p ∈ own, p.1 ≠ I := fun p hp e => by have := (N4 (I, oI) (.head _)).2.2; rw [← e, hO p hp] at this; cases this
  have hcI : L + 1 ≠ I := Nat.ne_of_lt (q4 (L + 1, o3) (.head _))
  have hcell' : (hideAll h4 [I]).IsCell (L + 1) (some (.str (Txt.lower n) _)) := let ⟨o, a, b⟩ := hcell; ⟨o, hideAll_get [I] a (fun q => hcI (List.mem_singleton.mp q)), b⟩
  unfold CompGo
  refine comp_goP (oI := oI) (by decide) (by rfl) (N4 _ (.head _)).1 (li_self hI) refs.length (fun D C j s' => All3 (I < D) (h4.get? C = none) (Ex6 fun (h' : Heap) (tk' : Nat) (l : List (Str × Value)) (vs : List Value) (e' : Nat) (oJ : Obj) => All5 (s' = ⟨h', gs, dr, tk', os⟩) (Fr (hideAll h4 [I]) C h' (lk l)) (News (hideAll h4 [I]) C h' [(D, listOf vs.toArray e'), (I, oJ)]) (LI oJ H j) (StrsAre vs (pickF (ents.take j) (Txt.lower n))))) ?h0 ?turn ?done
  case h0 =>
    intro D C h' tk' F' N' lID lDC eD eC
    exact ⟨lID, eC, h', tk', [], [], 0, oI, rfl, F', N', hI, .nil⟩
  case turn =>
    rintro E' D C K j _ hj hKK ⟨lID, eC, h', tk', l, vs, e', oJ, rfl, F', N', hJ, hvs⟩
    unfold CompTurn
    obtain ⟨en, hen⟩ : ∃ e, ents[j]? = some e := ⟨_, List.getElem?_eq_getElem (by rw [← hE.1]; exact hj)⟩
    obtain ⟨T, ta, tb, hT, hTm⟩ := hE.2 j en hen
    have hlen : en.1.length < 100 := hl en (List.mem_of_getElem? hen)
    have hbase : ∀ a o, hp.get? a = some o → a ≠ I → h'.get? a = some o := fun a o e hne => F'.keep _ _ (hideAll_get [I] (F4.keep _ _ e) fun q => hne (List.mem_singleton.mp q))
    refine next_list F' (news := [(D, listOf vs.toArray e')]) (fun p hp => N' p (mem_swap hp)) (ne_one (Nat.ne_of_gt lID)) hJ (PySem.IsL.isList (n := ep) (hbase _ _ hH hIH)) (by rw [List.getElem?_toArray]; exact hT) fun h5 oJ5 F5 N5 hJ5 => ⟨_, rfl, letGo_name ?_⟩
    refine asK F5 N5 (by kernel_rfl) (by kernel_rfl) fun h6 tk6 F6 N6 => cp_one ?_
    have hTT : IsTup h6 T #[.str en.1 ta, .str en.2 tb] := ⟨_, F6.keep _ _ (hideAll_get [I] (F4.keep _ _ (hO _ hTm)) fun q => hOI _ hTm (List.mem_singleton.mp q)), rfl, 0, rfl⟩
    clear F5 N5 F' N'
    iterate 11 walk1
    walk1
    have hlen' : vs.length ≤ 1000 := by
      rw [hvs.length]
      unfold pickF
      rw [List.length_map]
      refine Nat.le_trans (List.length_filter_le _ _) ?_
      rw [List.length_take]
      have := hE.1
      omega
    by_cases hc : (Txt.lower en.1 == Txt.lower n) = true
    · rw [if_pos hc]
      iterate 4 walk1
      refine f_append F6 N6 (.tail (Nat.ne_of_lt lID) (.head fun _ hp => nomatch hp)) (fun h7 F7 N7 => ?_) (by rw [List.size_toArray]; exact Nat.le_trans hlen' (by decide))
      have e7 : vs.toArray.push (Value.str en.2 tb) = (vs ++ [Value.str en.2 tb]).toArray := by simp
      rw [e7] at N7
      refine hKK _ ⟨lID, eC, h7, _, _, _, _, oJ5, rfl, F7, fun p hp => N7 p (mem_swap hp), hJ5, ?_⟩
      rw [pickF_pos hen hc]
      exact strs_snoc hvs
    · rw [if_neg hc]
      refine hKK _ ⟨lID, eC, h6, _, _, _, _, oJ5, rfl, F6, fun p hp => N6 p (mem_swap hp), hJ5, ?_⟩
      rw [pickF_neg hen hc]
      exact hvs
  case done =>
    rintro E' D C K hKK _ ⟨lID, eC, h', tk', l, vs, e', oJ, rfl, F', N', hJ, hvs⟩
    have hh5 : (A.deeper (envG (Str.ofString "Headers.get_all") (fdAt w 184).scope L 184 (.ref 183) [("name", L + 1)])).handled = none := hh
    refine next_list_end hh5 F' (news := [(D, listOf vs.toArray e')]) (fun p hp => N' p (mem_swap hp)) (ne_one (Nat.ne_of_gt lID)) hJ (PySem.IsL.isList (n := ep) (F'.keep _ _ (hideAll_get [I] (F4.keep _ _ hH) fun q => hIH (List.mem_singleton.mp q)))) (by rw [List.getElem?_toArray, List.getElem?_eq_none_iff]; exact Nat.le_refl _) fun h5 F5 N5 => ⟨rfl, hKK _ ?_⟩
    refine comp_end F4 N4 (fun p hp => Nat.ne_of_lt (q4 p hp)) F5 N5 (ne_one (Nat.ne_of_gt lID)) eC fun h6 F6 N6 => ?_
    iterate 2 walk1
    rw [hE.1, List.take_length] at hvs
    exact h h6 _ D vs e' (fun b o _ e => F6.keep b o e) (Fresh.of_news fun p hp => N6 p (by rw [List.mem_singleton.mp hp]; exact .head _)) hvs
end Mine
end
section
theorem Mine.freshP2 : True := by
  w_top off
  trivial
namespace Mine
theorem pf_01 (x01 x02 x03 x04 x05 x12 x13 x14 x15 x23 x24 x25 x34 x35 x45 : Int) : (x01*x23 - x02*x13 + x03*x12)*(x01*x45 - x04*x15 + x05*x14) - (x01*x24 - x02*x14 + x04*x12)*(x01*x35 - x03*x15 + x05*x13) + (x01*x25 - x02*x15 + x05*x12)*(x01*x34 - x03*x14 + x04*x13) = x01*((x01*x23*x45 - x01*x24*x35 + x01*x25*x34 - x02*x13*x45 + x02*x14*x35 - x02*x15*x34 + x03*x12*x45 - x03*x14*x25 + x03*x15*x24 - x04*x12*x35 + x04*x13*x25 - x04*x15*x23 + x05*x12*x34 - x05*x13*x24 + x05*x14*x23)) := by grind
theorem pf_02 (x01 x02 x03 x04 x05 x12 x13 x14 x15 x23 x24 x25 x34 x35 x45 : Int) : (x02*x13 - x01*x23 + x03*(-x12))*(x02*x45 - x04*x25 + x05*x24) - (x02*x14 - x01*x24 + x04*(-x12))*(x02*x35 - x03*x25 + x05*x23) + (x02*x15 - x01*x25 + x05*(-x12))*(x02*x34 - x03*x24 + x04*x23) = x02*(-(x01*x23*x45 - x01*x24*x35 + x01*x25*x34 - x02*x13*x45 + x02*x14*x35 - x02*x15*x34 + x03*x12*x45 - x03*x14*x25 + x03*x15*x24 - x04*x12*x35 + x04*x13*x25 - x04*x15*x23 + x05*x12*x34 - x05*x13*x24 + x05*x14*x23)) := by grind
theorem pf_03 (x01 x02 x03 x04 x05 x12 x13 x14 x15 x23 x24 x25 x34 x35 x45 : Int) : (x03*x12 - x01*(-x23) + x02*(-x13))*(x03*x45 - x04*x35 + x05*x34) - (x03*x14 - x01*x34 + x04*(-x13))*(x03*x25 - x02*x35 + x05*(-x23)) + (x03*x15 - x01*x35 + x05*(-x13))*(x03*x24 - x02*x34 + x04*(-x23)) = x03*((x01*x23*x45 - x01*x24*x35 + x01*x25*x34 - x02*x13*x45 + x02*x14*x35 - x02*x15*x34 + x03*x12*x45 - x03*x14*x25 + x03*x15*x24 - x04*x12*x35 + x04*x13*x25 - x04*x15*x23 + x05*x12*x34 - x05*x13*x24 + x05*x14*x23)) := by grind
theorem pf_04 (x01 x02 x03 x04 x05 x12 x13 x14 x15 x23 x24 x25 x34 x35 x45 : Int) : (x04*x12 - x01*(-x24) + x02*(-x14))*(x04*x35 - x03*x45 + x05*(-x34)) - (x04*x13 - x01*(-x34) + x03*(-x14))*(x04*x25 - x02*x45 + x05*(-x24)) + (x04*x15 - x01*x45 + x05*(-x14))*(x04*x23 - x02*(-x34) + x03*(-x24)) = x04*(-(x01*x23*x45 - x01*x24*x35 + x01*x25*x34 - x02*x13*x45 + x02*x14*x35 - x02*x15*x34 + x03*x12*x45 - x03*x14*x25 + x03*x15*x24 - x04*x12*x35 + x04*x13*x25 - x04*x15*x23 + x05*x12*x34 - x05*x13*x24 + x05*x14*x23)) := by grind
theorem pf_05 (x01 x02 x03 x04 x05 x12 x13 x14 x15 x23 x24 x25 x34 x35 x45 : Int) : (x05*x12 - x01*(-x25) + x02*(-x15))*(x05*x34 - x03*(-x45) + x04*(-x35)) - (x05*x13 - x01*(-x35) + x03*(-x15))*(x05*x24 - x02*(-x45) + x04*(-x25)) + (x05*x14 - x01*(-x45) + x04*(-x15))*(x05*x23 - x02*(-x35) + x03*(-x25)) = x05*((x01*x23*x45 - x01*x24*x35 + x01*x25*x34 - x02*x13*x45 + x02*x14*x35 - x02*x15*x34 + x03*x12*x45 - x03*x14*x25 + x03*x15*x24 - x04*x12*x35 + x04*x13*x25 - x04*x15*x23 + x05*x12*x34 - x05*x13*x24 + x05*x14*x23)) := by grind
theorem pf_12 (x01 x02 x03 x04 x05 x12 x13 x14 x15 x23 x24 x25 x34 x35 x45 : Int) : (x12*x03 - (-x01)*x23 + x13*(-x02))*(x12*x45 - x14*x25 + x15*x24) - (x12*x04 - (-x01)*x24 + x14*(-x02))*(x12*x35 - x13*x25 + x15*x23) + (x12*x05 - (-x01)*x25 + x15*(-x02))*(x12*x34 - x13*x24 + x14*x23) = x12*((x01*x23*x45 - x01*x24*x35 + x01*x25*x34 - x02*x13*x45 + x02*x14*x35 - x02*x15*x34 + x03*x12*x45 - x03*x14*x25 + x03*x15*x24 - x04*x12*x35 + x04*x13*x25 - x04*x15*x23 + x05*x12*x34 - x05*x13*x24 + x05*x14*x23)) := by grind
theorem pf_13 (x01 x02 x03 x04 x05 x12 x13 x14 x15 x23 x24 x25 x34 x35 x45 : Int) : (x13*x02 - (-x01)*(-x23) + x12*(-x03))*(x13*x45 - x14*x35 + x15*x34) - (x13*x04 - (-x01)*x34 + x14*(-x03))*(x13*x25 - x12*x35 + x15*(-x23)) + (x13*x05 - (-x01)*x35 + x15*(-x03))*(x13*x24 - x12*x34 + x14*(-x23)) = x13*(-(x01*x23*x45 - x01*x24*x35 + x01*x25*x34 - x02*x13*x45 + x02*x14*x35 - x02*x15*x34 + x03*x12*x45 - x03*x14*x25 + x03*x15*x24 - x04*x12*x35 + x04*x13*x25 - x04*x15*x23 + x05*x12*x34 - x05*x13*x24 + x05*x14*x23)) := by grind
theorem pf_14 (x01 x02 x03 x04 x05 x12 x13 x14 x15 x23 x24 x25 x34 x35 x45 : Int) : (x14*x02 - (-x01)*(-x24) + x12*(-x04))*(x14*x35 - x13*x45 + x15*(-x34)) - (x14*x03 - (-x01)*(-x34) + x13*(-x04))*(x14*x25 - x12*x45 + x15*(-x24)) + (x14*x05 - (-x01)*x45 + x15*(-x04))*(x14*x23 - x12*(-x34) + x13*(-x24)) = x14*((x01*x23*x45 - x01*x24*x35 + x01*x25*x34 - x02*x13*x45 + x02*x14*x35 - x02*x15*x34 + x03*x12*x45 - x03*x14*x25 + x03*x15*x24 - x04*x12*x35 + x04*x13*x25 - x04*x15*x23 + x05*x12*x34 - x05*x13*x24 + x05*x14*x23)) := by grind
theorem pf_15 (x01 x02 x03 x04 x05 x12 x13 x14 x15 x23 x24 x25 x34 x35 x45 : Int) : (x15*x02 - (-x01)*(-x25) + x12*(-x05))*(x15*x34 - x13*(-x45) + x14*(-x35)) - (x15*x03 - (-x01)*(-x35) + x13*(-x05))*(x15*x24 - x12*(-x45) + x14*(-x25)) + (x15*x04 - (-x01)*(-x45) + x14*(-x05))*(x15*x23 - x12*(-x35) + x13*(-x25)) = x15*(-(x01*x23*x45 - x01*x24*x35 + x01*x25*x34 - x02*x13*x45 + x02*x14*x35 - x02*x15*x34 + x03*x12*x45 - x03*x14*x25 + x03*x15*x24 - x04*x12*x35 + x04*x13*x25 - x04*x15*x23 + x05*x12*x34 - x05*x13*x24 + x05*x14*x23)) := by grind
theorem pf_23 (x01 x02 x03 x04 x05 x12 x13 x14 x15 x23 x24 x25 x34 x35 x45 : Int) : (x23*x01 - (-x02)*(-x13) + (-x12)*(-x03))*(x23*x45 - x24*x35 + x25*x34) - (x23*x04 - (-x02)*x34 + x24*(-x03))*(x23*x15 - (-x12)*x35 + x25*(-x13)) + (x23*x05 - (-x02)*x35 + x25*(-x03))*(x23*x14 - (-x12)*x34 + x24*(-x13)) = x23*((x01*x23*x45 - x01*x24*x35 + x01*x25*x34 - x02*x13*x45 + x02*x14*x35 - x02*x15*x34 + x03*x12*x45 - x03*x14*x25 + x03*x15*x24 - x04*x12*x35 + x04*x13*x25 - x04*x15*x23 + x05*x12*x34 - x05*x13*x24 + x05*x14*x23)) := by grind
theorem pf_24 (x01 x02 x03 x04 x05 x12 x13 x14 x15 x23 x24 x25 x34 x35 x45 : Int) : (x24*x01 - (-x02)*(-x14) + (-x12)*(-x04))*(x24*x35 - x23*x45 + x25*(-x34)) - (x24*x03 - (-x02)*(-x34) + x23*(-x04))*(x24*x15 - (-x12)*x45 + x25*(-x14)) + (x24*x05 - (-x02)*x45 + x25*(-x04))*(x24*x13 - (-x12)*(-x34) + x23*(-x14)) = x24*(-(x01*x23*x45 - x01*x24*x35 + x01*x25*x34 - x02*x13*x45 + x02*x14*x35 - x02*x15*x34 + x03*x12*x45 - x03*x14*x25 + x03*x15*x24 - x04*x12*x35 + x04*x13*x25 - x04*x15*x23 + x05*x12*x34 - x05*x13*x24 + x05*x14*x23)) := by grind
theorem pf_25 (x01 x02 x03 x04 x05 x12 x13 x14 x15 x23 x24 x25 x34 x35 x45 : Int) : (x25*x01 - (-x02)*(-x15) + (-x12)*(-x05))*(x25*x34 - x23*(-x45) + x24*(-x35)) - (x25*x03 - (-x02)*(-x35) + x23*(-x05))*(x25*x14 - (-x12)*(-x45) + x24*(-x15)) + (x25*x04 - (-x02)*(-x45) + x24*(-x05))*(x25*x13 - (-x12)*(-x35) + x23*(-x15)) = x25*((x01*x23*x45 - x01*x24*x35 + x01*x25*x34 - x02*x13*x45 + x02*x14*x35 - x02*x15*x34 + x03*x12*x45 - x03*x14*x25 + x03*x15*x24 - x04*x12*x35 + x04*x13*x25 - x04*x15*x23 + x05*x12*x34 - x05*x13*x24 + x05*x14*x23)) := by grind
theorem pf_34 (x01 x02 x03 x04 x05 x12 x13 x14 x15 x23 x24 x25 x34 x35 x45 : Int) : (x34*x01 - (-x03)*(-x14) + (-x13)*(-x04))*(x34*x25 - (-x23)*x45 + x35*(-x24)) - (x34*x02 - (-x03)*(-x24) + (-x23)*(-x04))*(x34*x15 - (-x13)*x45 + x35*(-x14)) + (x34*x05 - (-x03)*x45 + x35*(-x04))*(x34*x12 - (-x13)*(-x24) + (-x23)*(-x14)) = x34*((x01*x23*x45 - x01*x24*x35 + x01*x25*x34 - x02*x13*x45 + x02*x14*x35 - x02*x15*x34 + x03*x12*x45 - x03*x14*x25 + x03*x15*x24 - x04*x12*x35 + x04*x13*x25 - x04*x15*x23 + x05*x12*x34 - x05*x13*x24 + x05*x14*x23)) := by grind
theorem pf_35 (x01 x02 x03 x04 x05 x12 x13 x14 x15 x23 x24 x25 x34 x35 x45 : Int) : (x35*x01 - (-x03)*(-x15) + (-x13)*(-x05))*(x35*x24 - (-x23)*(-x45) + x34*(-x25)) - (x35*x02 - (-x03)*(-x25) + (-x23)*(-x05))*(x35*x14 - (-x13)*(-x45) + x34*(-x15)) + (x35*x04 - (-x03)*(-x45) + x34*(-x05))*(x35*x12 - (-x13)*(-x25) + (-x23)*(-x15)) = x35*(-(x01*x23*x45 - x01*x24*x35 + x01*x25*x34 - x02*x13*x45 + x02*x14*x35 - x02*x15*x34 + x03*x12*x45 - x03*x14*x25 + x03*x15*x24 - x04*x12*x35 + x04*x13*x25 - x04*x15*x23 + x05*x12*x34 - x05*x13*x24 + x05*x14*x23)) := by grind
theorem pf_45 (x01 x02 x03 x04 x05 x12 x13 x14 x15 x23 x24 x25 x34 x35 x45 : Int) : (x45*x01 - (-x04)*(-x15) + (-x14)*(-x05))*(x45*x23 - (-x24)*(-x35) + (-x34)*(-x25)) - (x45*x02 - (-x04)*(-x25) + (-x24)*(-x05))*(x45*x13 - (-x14)*(-x35) + (-x34)*(-x15)) + (x45*x03 - (-x04)*(-x35) + (-x34)*(-x05))*(x45*x12 - (-x14)*(-x25) + (-x24)*(-x15)) = x45*((x01*x23*x45 - x01*x24*x35 + x01*x25*x34 - x02*x13*x45 + x02*x14*x35 - x02*x15*x34 + x03*x12*x45 - x03*x14*x25 + x03*x15*x24 - x04*x12*x35 + x04*x13*x25 - x04*x15*x23 + x05*x12*x34 - x05*x13*x24 + x05*x14*x23)) := by grind
end Mine
end
section
theorem Mine.freshP3 : True := by
  w_top off
  trivial
namespace Mine
def ckL : Bool → Nat → List Nat → Option Nat
  | _, n, [] => some n
  | true, n, _ :: r => ckL false n r
  | false, n, c :: r => if c == 92 then ckL true n r else if c == 40 then ckL false (n + 1) r else if c == 41 then (if n == 0 then none else ckL false (n - 1) r) else ckL false n r
theorem opn_eq : Str.ofString "(" = ⟨#[40]⟩ := by decide
theorem cls_eq : Str.ofString ")" = ⟨#[41]⟩ := by decide
theorem quo_eq : Str.ofString "\"" = ⟨#[34]⟩ := by decide
theorem one_beq (c k : Nat) : ((⟨#[c]⟩ : Str) == ⟨#[k]⟩) = (c == k) := by
  by_cases h : c = k
  · subst h; simp
  · have : (⟨#[c]⟩ : Str) ≠ ⟨#[k]⟩ := fun e => h (by injection e with e; simpa using e)
    rw [beq_eq_false_iff_ne.mpr this, beq_eq_false_iff_ne.mpr h]
theorem two_beq (c k : Nat) : ((⟨#[92, c]⟩ : Str) == ⟨#[k]⟩) = false := by
  rw [beq_eq_false_iff_ne]
  intro e
  injection e with e
  simp at e
theorem bsl_beq (k : Nat) (h : k ≠ 92) : ((⟨#[92]⟩ : Str) == ⟨#[k]⟩) = false := by rw [one_beq, beq_eq_false_iff_ne]; exact h.symm
theorem ck_list : ∀ (r : List Nat) (i : Nat) (e : Bool) (n : Nat), (escOf i e r).foldl ckStep (some (n : Int)) = (ckL e n r).map fun z => (z : Int)
  | [], i, true, n => by
    simp only [escOf, List.foldl_cons, List.foldl_nil, ck_some, opn_eq, cls_eq, bsl_beq 40 (by decide), bsl_beq 41 (by decide), Bool.false_eq_true, if_false]
    rfl
  | [], i, false, n => rfl
  | c :: r, i, true, n => by
    simp only [escOf, List.foldl_cons, ck_some, opn_eq, cls_eq, two_beq, Bool.false_eq_true, if_false]
    exact ck_list r (i + 1) false n
  | c :: r, i, false, n => by
    unfold escOf ckL
    by_cases h : c = 92
    · subst h
      simp only [if_true, beq_self_eq_true]
      exact ck_list r (i + 1) true n
    · have h' : (c == 92) = false := beq_eq_false_iff_ne.mpr h
      simp only [if_neg h, h', Bool.false_eq_true, if_false, List.foldl_cons, ck_some, opn_eq, cls_eq, one_beq]
      by_cases h1 : c = 40
      · subst h1
        simp only [beq_self_eq_true, if_true]
        exact ck_list r (i + 1) false (n + 1)
      · have h1' : (c == 40) = false := beq_eq_false_iff_ne.mpr h1
        simp only [h1', Bool.false_eq_true, if_false]
        by_cases h2 : c = 41
        · subst h2
          simp only [beq_self_eq_true, if_true]
          by_cases h3 : n = 0
          · subst h3
            simp only [beq_self_eq_true, if_true]
            rw [if_pos (by decide), ck_none]
            rfl
          · have h3' : (n == 0) = false := beq_eq_false_iff_ne.mpr h3
            simp only [h3', Bool.false_eq_true, if_false]
            rw [if_neg (by omega), show ((n : Int) - 1) = ((n - 1 : Nat) : Int) by omega]
            exact ck_list r (i + 1) false (n - 1)
        · have h2' : (c == 41) = false := beq_eq_false_iff_ne.mpr h2
          simp only [h2', Bool.false_eq_true, if_false]
          exact ck_list r (i + 1) false n
theorem check_list (x : Str) : checkF x = (ckL false 0 (stripF x).cps.toList == some 0) := by
  unfold checkF ckRun
  have h := ck_list (stripF x).cps.toList 0 false 0
  rw [show ((0 : Nat) : Int) = 0 from rfl] at h
  rw [h]
  cases ckL false 0 (stripF x).cps.toList with
  | none => rfl
  | some n =>
    show ((n : Int) == 0) = (some n == some 0)
    by_cases h : n = 0
    · subst h; rfl
    · rw [beq_eq_false_iff_ne.mpr (show (n : Int) ≠ 0 by omega), beq_eq_false_iff_ne.mpr (fun e => h (Option.some.inj e))]
def toL (s : Str) : List Nat := s.cps.toList
def escQ : Nat → Bool → List Nat → List Nat
  | _, _, [] => []
  | i, true, _ :: r => escQ (i + 1) false r
  | i, false, c :: r => if c == 92 then escQ (i + 1) true r else if c == 34 then i :: escQ (i + 1) false r else escQ (i + 1) false r
def sqP (x : List Nat) (s : Nat × Option Nat × List Nat) (o : Nat) : Nat × Option Nat × List Nat := match s.2.1 with
  | none => (s.1, some o, s.2.2)
  | some q => (o + 1, none, s.2.2 ++ (x.drop s.1).take (q - s.1))
def stripN (x : List Nat) : List Nat := let s := (escQ 0 false x).foldl (sqP x) (0, none, []); s.2.2 ++ x.drop s.1
def flat (l : List Str) : List Nat := (l.map toL).flatten
theorem flat_snoc (l : List Str) (s : Str) : flat (l ++ [s]) = flat l ++ toL s := by unfold flat; simp
theorem slice_toL {x : Str} {i j : Nat} (h : i ≤ j) (h2 : j ≤ (toL x).length) : toL (Txt.slice x (some (i : Int)) (some (j : Int))) = ((toL x).drop i).take (j - i) := by
  have e := beq_iff_eq.mp (PyProof.Rows.slice_closes (x := x) (i := (i : Int)) (j := (j : Int)) ⟨by omega, by omega, by exact_mod_cast h2⟩)
  rw [e]
  unfold toL
  rw [Int.toNat_natCast, show ((j : Int) - i).toNat = j - i by omega]
theorem slice_toL' {x : Str} {i : Nat} (h : i ≤ (toL x).length) : toL (Txt.slice x (some (i : Int)) none) = (toL x).drop i := by
  have e := beq_iff_eq.mp (PyProof.Rows.slice_closes_from (x := x) (i := (i : Int)) ⟨by omega, by exact_mod_cast h⟩)
  rw [e]
  unfold toL at *
  rw [Int.toNat_natCast, show ((x.cps.toList.length : Int) - i).toNat = x.cps.toList.length - i by omega]
  exact List.take_of_length_le (by rw [List.length_drop]; exact Nat.le_refl _)
def stOk (i : Nat) (s : Nat × Option Nat × List Str) : Prop := s.1 ≤ i ∧ ∀ o, s.2.1 = some o → s.1 ≤ o ∧ o < i
def stL (s : Nat × Option Nat × List Str) : Nat × Option Nat × List Nat := (s.1, s.2.1, flat s.2.2)
theorem sq_other {x : Str} {s : Nat × Option Nat × List Str} {ev : Nat × Str} (h : (ev.2 == Str.ofString "\"") = false) : sqStep x s ev = s := by unfold sqStep; rw [h, if_neg (by decide)]
theorem sq_list (x : Str) : ∀ (r : List Nat) (i : Nat) (e : Bool) (s : Nat × Option Nat × List Str), i + r.length = (toL x).length → stOk i s →
    stOk (toL x).length ((escOf i e r).foldl (sqStep x) s) ∧ stL ((escOf i e r).foldl (sqStep x) s) = (escQ i e r).foldl (sqP (toL x)) (stL s)
  | [], i, true, s, hl, hs => by
    have e : sqStep x s (i - 1, ⟨#[92]⟩) = s := sq_other (by rw [quo_eq]; exact bsl_beq 34 (by decide))
    simp only [escOf, escQ, List.foldl_cons, List.foldl_nil, e]
    rw [← hl]
    exact ⟨hs, trivial⟩
  | [], i, false, s, hl, hs => by
    rw [← hl]
    exact ⟨hs, rfl⟩
  | c :: r, i, true, s, hl, hs => by
    have e : sqStep x s (i, ⟨#[92, c]⟩) = s := sq_other (by rw [quo_eq]; exact two_beq c 34)
    simp only [escOf, escQ, List.foldl_cons, e]
    exact sq_list x r (i + 1) false s (by rw [← hl]; simp; omega) ⟨Nat.le_succ_of_le hs.1, fun o h => ⟨(hs.2 o h).1, Nat.lt_succ_of_lt (hs.2 o h).2⟩⟩
  | c :: r, i, false, s, hl, hs => by
    have hs' : stOk (i + 1) s := ⟨Nat.le_succ_of_le hs.1, fun o h => ⟨(hs.2 o h).1, Nat.lt_succ_of_lt (hs.2 o h).2⟩⟩
    have hl' : i + 1 + r.length = (toL x).length := by rw [← hl]; simp; omega
    unfold escOf escQ
    by_cases h : c = 92
    · subst h
      simp only [if_true, beq_self_eq_true]
      exact sq_list x r (i + 1) true s hl' hs'
    · have h' : (c == 92) = false := beq_eq_false_iff_ne.mpr h
      simp only [if_neg h, h', Bool.false_eq_true, if_false, List.foldl_cons]
      by_cases h1 : c = 34
      · subst h1
        simp only [beq_self_eq_true, if_true, List.foldl_cons]
        obtain ⟨st, op, res⟩ := s
        have hq : sqStep x (st, op, res) (i, ⟨#[34]⟩) = match op with
            | none => (st, some i, res)
            | some o => (i + 1, none, if st = o then res else res ++ [Txt.slice x (some (st : Int)) (some (o : Int))]) := by
          unfold sqStep
          rw [if_pos (by rw [quo_eq]; exact beq_self_eq_true _)]
          cases op <;> rfl
        rw [hq]
        cases op with
        | none =>
          exact sq_list x r (i + 1) false (st, some i, res) hl' ⟨Nat.le_succ_of_le hs.1, fun o h => by cases h; exact ⟨hs.1, Nat.lt_succ_self _⟩⟩
        | some o =>
          have ho := hs.2 o rfl
          have z := sq_list x r (i + 1) false (i + 1, none, if st = o then res else res ++ [Txt.slice x (some (st : Int)) (some (o : Int))]) hl' ⟨Nat.le_refl _, fun o h => nomatch h⟩
          refine ⟨z.1, z.2.trans ?_⟩
          congr 1
          unfold stL sqP
          dsimp only
          have hf : flat (if st = o then res else res ++ [Txt.slice x (some (st : Int)) (some (o : Int))]) = flat res ++ ((toL x).drop st).take (o - st) := by
            by_cases q : st = o
            · subst q; simp
            · rw [if_neg q, flat_snoc, slice_toL ho.1 (by have := ho.2; omega)]
          rw [hf]
      · have h1' : (c == 34) = false := beq_eq_false_iff_ne.mpr h1
        have e : sqStep x s (i, ⟨#[c]⟩) = s := sq_other (by rw [quo_eq, one_beq]; exact h1')
        simp only [h1', Bool.false_eq_true, if_false, e]
        exact sq_list x r (i + 1) false s hl' hs'
theorem join_fold : ∀ (l : List Str) (acc : Array Nat), (l.foldl (fun acc p => acc ++ (⟨#[]⟩ : Str).cps ++ p.cps) acc).toList = acc.toList ++ flat l
  | [], acc => by simp [flat]
  | s :: l, acc => by
    rw [List.foldl_cons, join_fold l]
    simp [flat, toL]
theorem join_toL (l : List Str) : toL (Txt.join ⟨#[]⟩ l) = flat l := by
  cases l with
  | nil => rfl
  | cons s l =>
    show (l.foldl (fun acc p => acc ++ (⟨#[]⟩ : Str).cps ++ p.cps) s.cps).toList = _
    rw [join_fold]
    simp [flat, toL]
theorem escQ_nil : ∀ (r : List Nat) (i : Nat) (e : Bool), 34 ∉ r → escQ i e r = []
  | [], _, _, _ => rfl
  | c :: r, i, true, h => by
    unfold escQ
    exact escQ_nil r (i + 1) false fun q => h (.tail _ q)
  | c :: r, i, false, h => by
    have hc : (c == 34) = false := beq_eq_false_iff_ne.mpr fun q => h (by rw [q]; exact .head _)
    have hr : 34 ∉ r := fun q => h (.tail _ q)
    unfold escQ
    rw [hc]
    simp only [Bool.false_eq_true, if_false]
    split
    · exact escQ_nil r (i + 1) true hr
    · exact escQ_nil r (i + 1) false hr
theorem strip_list (x : Str) : toL (stripF x) = stripN (toL x) := by
  unfold stripF
  by_cases h : 34 ∈ x.cps.toList
  · rw [if_pos h]
    obtain ⟨z, e⟩ := sq_list x (toL x) 0 false (0, none, []) (by simp) ⟨Nat.le_refl _, fun o h => nomatch h⟩
    unfold stripN
    have e' : (escQ 0 false (toL x)).foldl (sqP (toL x)) (0, none, []) = stL ((escOf 0 false (toL x)).foldl (sqStep x) (0, none, [])) := e.symm
    rw [e']
    show toL (sqEnd x ((escOf 0 false (toL x)).foldl (sqStep x) (0, none, []))) = _
    generalize (escOf 0 false (toL x)).foldl (sqStep x) (0, none, []) = s at z
    unfold sqEnd stL
    rw [join_toL]
    dsimp only
    have hx : x.length = (toL x).length := by unfold toL; simp [Str.length]
    by_cases q : s.1 < x.length
    · rw [if_pos q, flat_snoc, slice_toL' z.1]
    · rw [if_neg q, List.drop_of_length_le (by omega), List.append_nil]
  · rw [if_neg h]
    unfold stripN
    rw [escQ_nil (toL x) 0 false h]
    rfl
def addL (l : List (List Nat)) (i : Nat) (s : List Nat) : List (List Nat) := l.set i (l.getD i [] ++ s)
theorem addL_map (l : List Str) (i : Nat) (s : Str) : (addAt l i s).map toL = addL (l.map toL) i (toL s) := by
  unfold addAt addL
  rw [List.map_set]
  congr 1
  have e : toL (l.getD i ⟨#[]⟩ ++ s) = toL (l.getD i ⟨#[]⟩) ++ toL s := by
    show ((l.getD i ⟨#[]⟩).cps ++ s.cps).toList = _
    rw [Array.toList_append]
    rfl
  rw [e]
  congr 1
  rw [List.getD_eq_getElem?_getD, List.getD_eq_getElem?_getD, List.getElem?_map]
  cases l[i]? <;> rfl
def lineL (way : List (Nat × Nat)) (k : Nat) (dress : List (List Nat)) (a b : List Nat) : List Nat :=
  (addL (addL ((way.take k).foldl (fun l pq => addL (addL l pq.1 [34]) pq.2 [34]) dress) (way.getD k (0, 0)).1 a) (way.getD k (0, 0)).2 b).flatten
theorem fold_map (w : List (Nat × Nat)) : ∀ l : List Str, (w.foldl (fun l pq => addAt (addAt l pq.1 (Str.ofString "\"")) pq.2 (Str.ofString "\"")) l).map toL = w.foldl (fun l pq => addL (addL l pq.1 [34]) pq.2 [34]) (l.map toL) := by
  induction w with
  | nil => intro l; rfl
  | cons pq w ih =>
    intro l
    rw [List.foldl_cons, List.foldl_cons, ih, addL_map, addL_map, quo_eq]
    rfl
theorem line_list (way : List (Nat × Nat)) (k : Nat) (d : List Str) (a b : Str) : toL (lineF way k d a b) = lineL way k (d.map toL) (toL a) (toL b) := by
  unfold lineF lineG lineL
  rw [join_toL]
  unfold flat
  dsimp only
  rw [addL_map, addL_map, fold_map]
def overL (y : List Nat) (due : Bool) : Bool := ((ckL false 0 y == some 0) == due) && y.all (· < 128) && decide (y.length ≤ 1000)
def plainL (x : List Nat) (due : Bool) : Bool := overL (stripN x) due && x.all (· < 128) && decide (x.length ≤ 1000)
structure PlainX (x : Str) (due : Bool) : Prop where
  c : checkF x = due
  a : x.cps.all (· < 128) = true
  z : x.length ≤ 1000
  a' : (stripF x).cps.all (· < 128) = true
  z' : (stripF x).length ≤ 1000
theorem len_toL (x : Str) : x.length = (toL x).length := by unfold toL; simp [Str.length]
theorem plain_of {x : Str} {due : Bool} (h : plainL (toL x) due = true) : PlainX x due := by
  unfold plainL overL at h
  simp only [Bool.and_eq_true, beq_iff_eq, decide_eq_true_eq] at h
  obtain ⟨⟨⟨⟨h1, h2⟩, h3⟩, h4⟩, h5⟩ := h
  rw [← strip_list] at h1 h2 h3
  refine ⟨?_, ?_, ?_, ?_, ?_⟩
  · rw [check_list]; exact h1
  · rw [← Array.all_toList]; exact h4
  · rw [len_toL]; exact h5
  · rw [← Array.all_toList]; exact h2
  · rw [len_toL]; exact h3
end Mine
end
section
theorem Mine.freshP4 : True := by
  w_top off
  trivial
namespace Mine
def thingsN : List (List Nat) := [[92, 34], [92, 40], [34, 34], [92, 92], [92, 41], [111]]
theorem things_map : things.map toL = thingsN := by decide
def dressN (a b : Nat) : List (List Nat) := (List.replicate 7 []).set a (thingsN.getD b [])
theorem dress_map (ns : List Int) : (dressF ns).map toL = dressN ((ns.sum.natAbs + 3) % 7) (ns.length % 6) := by
  unfold dressF dressN
  rw [List.map_set, List.map_replicate, ← things_map]
  congr 1
  rw [List.getD_eq_getElem?_getD, List.getD_eq_getElem?_getD, List.getElem?_map]
  cases things[ns.length % 6]? <;> rfl
def waysL : List (List (Nat × Nat)) := [[(0, 1), (2, 3), (4, 5)], [(0, 1), (2, 4), (3, 5)], [(0, 1), (2, 5), (3, 4)], [(0, 2), (1, 3), (4, 5)], [(0, 2), (1, 4), (3, 5)], [(0, 2), (1, 5), (3, 4)], [(0, 3), (1, 2), (4, 5)], [(0, 3), (1, 4), (2, 5)], [(0, 3), (1, 5), (2, 4)], [(0, 4), (1, 2), (3, 5)], [(0, 4), (1, 3), (2, 5)], [(0, 4), (1, 5), (2, 3)], [(0, 5), (1, 2), (3, 4)], [(0, 5), (1, 3), (2, 4)], [(0, 5), (1, 4), (2, 3)]]
theorem ways_eq : waysN 3 [0, 1, 2, 3, 4, 5] = waysL := by decide
def crossN (way : List (Nat × Nat)) (k : Nat) : Nat := ((way.take k).filter fun uv => decide ((way.getD k (0, 0)).1 < uv.2) && decide (uv.2 < (way.getD k (0, 0)).2)).length
def lineOk (way : List (Nat × Nat)) (k : Nat) (d : List (List Nat)) : Bool := plainL (lineL way k d [40] [41]) (crossN way k % 2 == 0)
def turnOk (way : List (Nat × Nat)) (d : List (List Nat)) : Bool :=
  plainL (lineL way 0 d [40, 40] [41, 41] ++ [92]) true && plainL (lineL way 0 d [41, 41] [40, 40] ++ [92]) false &&
  plainL (lineL way 1 d [40, 40] [41, 41] ++ [40, 34, 41]) (decide ((way.getD 1 (0, 0)).2 < (way.getD 0 (0, 0)).2) || decide ((way.getD 0 (0, 0)).2 < (way.getD 1 (0, 0)).1)) && plainL (lineL way 1 d [41, 41] [40, 40] ++ [40, 34, 41]) (decide ((way.getD 1 (0, 0)).2 < (way.getD 0 (0, 0)).2))
def wayOk (way : List (Nat × Nat)) : Bool := (List.range 7).all fun a => (List.range 6).all fun b => lineOk way 1 (dressN a b) && lineOk way 2 (dressN a b) && turnOk way (dressN a b)
theorem way_0 : wayOk [(0, 1), (2, 3), (4, 5)] = true := by decide +kernel
theorem way_1 : wayOk [(0, 1), (2, 4), (3, 5)] = true := by decide +kernel
theorem way_2 : wayOk [(0, 1), (2, 5), (3, 4)] = true := by decide +kernel
theorem way_3 : wayOk [(0, 2), (1, 3), (4, 5)] = true := by decide +kernel
theorem way_4 : wayOk [(0, 2), (1, 4), (3, 5)] = true := by decide +kernel
theorem way_5 : wayOk [(0, 2), (1, 5), (3, 4)] = true := by decide +kernel
theorem way_6 : wayOk [(0, 3), (1, 2), (4, 5)] = true := by decide +kernel
theorem way_7 : wayOk [(0, 3), (1, 4), (2, 5)] = true := by decide +kernel
theorem way_8 : wayOk [(0, 3), (1, 5), (2, 4)] = true := by decide +kernel
theorem way_9 : wayOk [(0, 4), (1, 2), (3, 5)] = true := by decide +kernel
theorem way_10 : wayOk [(0, 4), (1, 3), (2, 5)] = true := by decide +kernel
theorem way_11 : wayOk [(0, 4), (1, 5), (2, 3)] = true := by decide +kernel
theorem way_12 : wayOk [(0, 5), (1, 2), (3, 4)] = true := by decide +kernel
theorem way_13 : wayOk [(0, 5), (1, 3), (2, 4)] = true := by decide +kernel
theorem way_14 : wayOk [(0, 5), (1, 4), (2, 3)] = true := by decide +kernel
theorem ways_ok : ∀ way ∈ waysL, wayOk way = true := by
  intro way h
  unfold waysL at h
  simp only [List.mem_cons, List.not_mem_nil, or_false] at h
  rcases h with rfl | rfl | rfl | rfl | rfl | rfl | rfl | rfl | rfl | rfl | rfl | rfl | rfl | rfl | rfl
  · exact way_0
  · exact way_1
  · exact way_2
  · exact way_3
  · exact way_4
  · exact way_5
  · exact way_6
  · exact way_7
  · exact way_8
  · exact way_9
  · exact way_10
  · exact way_11
  · exact way_12
  · exact way_13
  · exact way_14
theorem way_ok {way : List (Nat × Nat)} (h : way ∈ waysL) {a b : Nat} (ha : a < 7) (hb : b < 6) : lineOk way 1 (dressN a b) = true ∧ lineOk way 2 (dressN a b) = true ∧ turnOk way (dressN a b) = true := by
  have h0 := ways_ok way h
  unfold wayOk at h0
  have h1 := List.all_eq_true.mp h0 a (List.mem_range.mpr ha)
  have h2 := List.all_eq_true.mp h1 b (List.mem_range.mpr hb)
  rw [Bool.and_eq_true, Bool.and_eq_true] at h2
  exact ⟨h2.1.1, h2.1.2, h2.2⟩
end Mine
end
section
theorem Mine.freshP5 : True := by
  w_top off
  trivial
namespace Mine
theorem toL_append (x y : Str) : toL (x ++ y) = toL x ++ toL y := by
  show (x.cps ++ y.cps).toList = _
  rw [Array.toList_append]
  rfl
theorem mod7 (ns : List Int) : (ns.sum.natAbs + 3) % 7 < 7 := Nat.mod_lt _ (by decide)
theorem mod6 (ns : List Int) : ns.length % 6 < 6 := Nat.mod_lt _ (by decide)
theorem line_plain {way : List (Nat × Nat)} (hw : way ∈ waysL) (ns : List Int) {k : Nat} (hk : k = 1 ∨ k = 2) : PlainX (lineF way k (dressF ns) (Str.ofString "(") (Str.ofString ")")) (crossN way k % 2 == 0) := by
  have z := way_ok hw (mod7 ns) (mod6 ns)
  have e1 : toL (Str.ofString "(") = [40] := by decide
  have e2 : toL (Str.ofString ")") = [41] := by decide
  refine plain_of ?_
  rw [line_list, dress_map, e1, e2]
  rcases hk with rfl | rfl
  · exact z.1
  · exact z.2.1
theorem turn_plain {way : List (Nat × Nat)} (hw : way ∈ waysL) (ns : List Int) :
    PlainX (lineF way 0 (dressF ns) (Str.ofString "((") (Str.ofString "))") ++ Str.ofString "\\") true ∧
    PlainX (lineF way 0 (dressF ns) (Str.ofString "))") (Str.ofString "((") ++ Str.ofString "\\") false ∧
    PlainX (lineF way 1 (dressF ns) (Str.ofString "((") (Str.ofString "))") ++ Str.ofString "(\")") (decide ((way.getD 1 (0, 0)).2 < (way.getD 0 (0, 0)).2) || decide ((way.getD 0 (0, 0)).2 < (way.getD 1 (0, 0)).1)) ∧
    PlainX (lineF way 1 (dressF ns) (Str.ofString "))") (Str.ofString "((") ++ Str.ofString "(\")") (decide ((way.getD 1 (0, 0)).2 < (way.getD 0 (0, 0)).2)) := by
  obtain ⟨_, _, z⟩ := way_ok hw (mod7 ns) (mod6 ns)
  have e1 : toL (Str.ofString "((") = [40, 40] := by decide
  have e2 : toL (Str.ofString "))") = [41, 41] := by decide
  have e3 : toL (Str.ofString "\\") = [92] := by decide
  have e4 : toL (Str.ofString "(\")") = [40, 34, 41] := by decide
  unfold turnOk at z
  simp only [Bool.and_eq_true] at z
  obtain ⟨⟨⟨z1, z2⟩, z3⟩, z4⟩ := z
  refine ⟨plain_of ?_, plain_of ?_, plain_of ?_, plain_of ?_⟩
  · rw [toL_append, line_list, dress_map, e1, e2, e3]; exact z1
  · rw [toL_append, line_list, dress_map, e1, e2, e3]; exact z2
  · rw [toL_append, line_list, dress_map, e1, e2, e4]; exact z3
  · rw [toL_append, line_list, dress_map, e1, e2, e4]; exact z4
theorem fdiv_uniq {B q m : Int} (h : (0 < B ∧ 0 ≤ m ∧ m < B) ∨ (B < 0 ∧ B < m ∧ m ≤ 0)) : (B * q + m).fdiv B = q ∧ (B * q + m).fmod B = m := by
  have hB : B ≠ 0 := by omega
  have hs : m.fdiv B = 0 := by
    rcases h with ⟨h1, h2, h3⟩ | ⟨h1, h2, h3⟩
    · exact Int.fdiv_eq_zero_of_lt h2 h3
    · rw [← Int.neg_fdiv_neg]
      exact Int.fdiv_eq_zero_of_lt (by omega) (by omega)
  have e : (B * q + m).fdiv B = q := by
    rw [Int.add_comm, Int.add_mul_fdiv_left _ _ hB, hs, Int.zero_add]
  refine ⟨e, ?_⟩
  rw [Int.fmod_def, e]
  omega
/-- one division tells it -/
theorem div_tells {F q b m : Int} (hF : F = b * q) (hb : b ≠ 0) (hm : m = if 0 < b * 10 ^ 40 then b * 10 ^ 40 - 1 else min (b * 10 ^ 40 + 1) 0) : (F * 10 ^ 40 + m).fdiv (b * 10 ^ 40) = q ∧ (F * 10 ^ 40 + m).fmod (b * 10 ^ 40) = m := by
  have e : F * 10 ^ 40 + m = b * 10 ^ 40 * q + m := by rw [hF]; grind
  rw [e]
  refine fdiv_uniq ?_
  have hB : b * 10 ^ 40 ≠ 0 := Int.mul_ne_zero hb (by decide)
  generalize b * 10 ^ 40 = B at hB hm
  by_cases h : 0 < B
  · rw [if_pos h] at hm
    exact .inl (by omega)
  · rw [if_neg h] at hm
    exact .inr (by omega)
/-- the opposite, with nothing put on -/
theorem div_tells0 {F q b : Int} (hF : F = b * q) (hb : b ≠ 0) : ((-F) * 10 ^ 40 + 0).fdiv (b * 10 ^ 40) = -q ∧ ((-F) * 10 ^ 40 + 0).fmod (b * 10 ^ 40) = 0 := by
  have e : (-F) * 10 ^ 40 + 0 = b * 10 ^ 40 * (-q) + 0 := by rw [hF]; grind
  rw [e]
  refine fdiv_uniq ?_
  have hB : b * 10 ^ 40 ≠ 0 := Int.mul_ne_zero hb (by decide)
  omega
end Mine
end
section
theorem Mine.freshP6 : True := by
  w_top off
  trivial
namespace Mine
def fourW (W : Nat → Nat → Int) (p q x y : Nat) : Int := W p q * W x y - W p x * W q y + W p y * W q x
def prodW (W : Nat → Nat → Int) (way : List (Nat × Nat)) : Int := 1 * W (way.getD 0 (0, 0)).1 (way.getD 0 (0, 0)).2 * W (way.getD 1 (0, 0)).1 (way.getD 1 (0, 0)).2 * W (way.getD 2 (0, 0)).1 (way.getD 2 (0, 0)).2
def kindN (way : List (Nat × Nat)) : Nat := crossN way 1 % 2 + 2 * (crossN way 2 % 2)
def sumK (W : Nat → Nat → Int) (j : Nat) : Int := ((waysL.filter fun way => kindN way == j).map (prodW W)).sum
def toldW (W : Nat → Nat → Int) : Int := 0 + sumK W 0 + -(sumK W 1) + -(sumK W 2) + sumK W 3
theorem kind_0 : waysL.filter (fun way => kindN way == 0) = [[(0, 1), (2, 3), (4, 5)], [(0, 1), (2, 5), (3, 4)], [(0, 3), (1, 2), (4, 5)], [(0, 4), (1, 3), (2, 5)], [(0, 5), (1, 2), (3, 4)], [(0, 5), (1, 4), (2, 3)]] := by decide
theorem kind_1 : waysL.filter (fun way => kindN way == 1) = [[(0, 2), (1, 3), (4, 5)], [(0, 2), (1, 5), (3, 4)], [(0, 3), (1, 4), (2, 5)], [(0, 4), (1, 5), (2, 3)]] := by decide
theorem kind_2 : waysL.filter (fun way => kindN way == 2) = [[(0, 1), (2, 4), (3, 5)], [(0, 4), (1, 2), (3, 5)], [(0, 5), (1, 3), (2, 4)]] := by decide
theorem kind_3 : waysL.filter (fun way => kindN way == 3) = [[(0, 2), (1, 4), (3, 5)], [(0, 3), (1, 5), (2, 4)]] := by decide
theorem toldW_eq (W : Nat → Nat → Int) : toldW W = W 0 1*W 2 3*W 4 5 - W 0 1*W 2 4*W 3 5 + W 0 1*W 2 5*W 3 4 - W 0 2*W 1 3*W 4 5 + W 0 2*W 1 4*W 3 5 - W 0 2*W 1 5*W 3 4 + W 0 3*W 1 2*W 4 5 - W 0 3*W 1 4*W 2 5 + W 0 3*W 1 5*W 2 4 - W 0 4*W 1 2*W 3 5 + W 0 4*W 1 3*W 2 5 - W 0 4*W 1 5*W 2 3 + W 0 5*W 1 2*W 3 4 - W 0 5*W 1 3*W 2 4 + W 0 5*W 1 4*W 2 3 := by
  unfold toldW sumK
  rw [kind_0, kind_1, kind_2, kind_3]
  simp only [List.map_cons, List.map_nil, List.sum_cons, List.sum_nil, prodW, List.getD_cons_zero, List.getD_cons_succ]
  simp only [Int.one_mul]
  omega
theorem pf_all {W : Nat → Nat → Int} (hA : ∀ i j, i < j → W j i = -W i j) {p q : Nat} (h1 : p < q) (h2 : q < 6) : ∃ a b c d : Nat, (List.range 6).filter (fun x => x != p && x != q) = [a, b, c, d] ∧ (a < 6 ∧ b < 6 ∧ c < 6 ∧ d < 6) ∧
    fourW W p q a b * fourW W p q c d - fourW W p q a c * fourW W p q b d + fourW W p q a d * fourW W p q b c = W p q * (if (p + q) % 2 = 1 then toldW W else -toldW W) := by
  have hc := (show ∀ q, q < 6 → ∀ p, p < q → (p, q) ∈ ([(0, 1), (0, 2), (0, 3), (0, 4), (0, 5), (1, 2), (1, 3), (1, 4), (1, 5), (2, 3), (2, 4), (2, 5), (3, 4), (3, 5), (4, 5)] : List (Nat × Nat)) by decide) q h2 p h1
  simp only [List.mem_cons, List.not_mem_nil, or_false, Prod.mk.injEq] at hc
  have h10 := hA 0 1 (by decide)
  have h20 := hA 0 2 (by decide)
  have h30 := hA 0 3 (by decide)
  have h40 := hA 0 4 (by decide)
  have h50 := hA 0 5 (by decide)
  have h21 := hA 1 2 (by decide)
  have h31 := hA 1 3 (by decide)
  have h41 := hA 1 4 (by decide)
  have h51 := hA 1 5 (by decide)
  have h32 := hA 2 3 (by decide)
  have h42 := hA 2 4 (by decide)
  have h52 := hA 2 5 (by decide)
  have h43 := hA 3 4 (by decide)
  have h53 := hA 3 5 (by decide)
  have h54 := hA 4 5 (by decide)
  rcases hc with ⟨rfl, rfl⟩ | ⟨rfl, rfl⟩ | ⟨rfl, rfl⟩ | ⟨rfl, rfl⟩ | ⟨rfl, rfl⟩ | ⟨rfl, rfl⟩ | ⟨rfl, rfl⟩ | ⟨rfl, rfl⟩ | ⟨rfl, rfl⟩ | ⟨rfl, rfl⟩ | ⟨rfl, rfl⟩ | ⟨rfl, rfl⟩ | ⟨rfl, rfl⟩ | ⟨rfl, rfl⟩ | ⟨rfl, rfl⟩
  · refine ⟨2, 3, 4, 5, by decide, by decide, ?_⟩
    rw [if_pos (by decide), toldW_eq]
    unfold fourW
    try simp only [h10, h20, h30, h40, h50, h21, h31, h41, h51, h32, h42, h52, h43, h53, h54]
    exact pf_01 (W 0 1) (W 0 2) (W 0 3) (W 0 4) (W 0 5) (W 1 2) (W 1 3) (W 1 4) (W 1 5) (W 2 3) (W 2 4) (W 2 5) (W 3 4) (W 3 5) (W 4 5)
  · refine ⟨1, 3, 4, 5, by decide, by decide, ?_⟩
    rw [if_neg (by decide), toldW_eq]
    unfold fourW
    try simp only [h10, h20, h30, h40, h50, h21, h31, h41, h51, h32, h42, h52, h43, h53, h54]
    exact pf_02 (W 0 1) (W 0 2) (W 0 3) (W 0 4) (W 0 5) (W 1 2) (W 1 3) (W 1 4) (W 1 5) (W 2 3) (W 2 4) (W 2 5) (W 3 4) (W 3 5) (W 4 5)
  · refine ⟨1, 2, 4, 5, by decide, by decide, ?_⟩
    rw [if_pos (by decide), toldW_eq]
    unfold fourW
    try simp only [h10, h20, h30, h40, h50, h21, h31, h41, h51, h32, h42, h52, h43, h53, h54]
    exact pf_03 (W 0 1) (W 0 2) (W 0 3) (W 0 4) (W 0 5) (W 1 2) (W 1 3) (W 1 4) (W 1 5) (W 2 3) (W 2 4) (W 2 5) (W 3 4) (W 3 5) (W 4 5)
  · refine ⟨1, 2, 3, 5, by decide, by decide, ?_⟩
    rw [if_neg (by decide), toldW_eq]
    unfold fourW
    try simp only [h10, h20, h30, h40, h50, h21, h31, h41, h51, h32, h42, h52, h43, h53, h54]
    exact pf_04 (W 0 1) (W 0 2) (W 0 3) (W 0 4) (W 0 5) (W 1 2) (W 1 3) (W 1 4) (W 1 5) (W 2 3) (W 2 4) (W 2 5) (W 3 4) (W 3 5) (W 4 5)
  · refine ⟨1, 2, 3, 4, by decide, by decide, ?_⟩
    rw [if_pos (by decide), toldW_eq]
    unfold fourW
    try simp only [h10, h20, h30, h40, h50, h21, h31, h41, h51, h32, h42, h52, h43, h53, h54]
    exact pf_05 (W 0 1) (W 0 2) (W 0 3) (W 0 4) (W 0 5) (W 1 2) (W 1 3) (W 1 4) (W 1 5) (W 2 3) (W 2 4) (W 2 5) (W 3 4) (W 3 5) (W 4 5)
  · refine ⟨0, 3, 4, 5, by decide, by decide, ?_⟩
    rw [if_pos (by decide), toldW_eq]
    unfold fourW
    try simp only [h10, h20, h30, h40, h50, h21, h31, h41, h51, h32, h42, h52, h43, h53, h54]
    exact pf_12 (W 0 1) (W 0 2) (W 0 3) (W 0 4) (W 0 5) (W 1 2) (W 1 3) (W 1 4) (W 1 5) (W 2 3) (W 2 4) (W 2 5) (W 3 4) (W 3 5) (W 4 5)
  · refine ⟨0, 2, 4, 5, by decide, by decide, ?_⟩
    rw [if_neg (by decide), toldW_eq]
    unfold fourW
    try simp only [h10, h20, h30, h40, h50, h21, h31, h41, h51, h32, h42, h52, h43, h53, h54]
    exact pf_13 (W 0 1) (W 0 2) (W 0 3) (W 0 4) (W 0 5) (W 1 2) (W 1 3) (W 1 4) (W 1 5) (W 2 3) (W 2 4) (W 2 5) (W 3 4) (W 3 5) (W 4 5)
  · refine ⟨0, 2, 3, 5, by decide, by decide, ?_⟩
    rw [if_pos (by decide), toldW_eq]
    unfold fourW
    try simp only [h10, h20, h30, h40, h50, h21, h31, h41, h51, h32, h42, h52, h43, h53, h54]
    exact pf_14 (W 0 1) (W 0 2) (W 0 3) (W 0 4) (W 0 5) (W 1 2) (W 1 3) (W 1 4) (W 1 5) (W 2 3) (W 2 4) (W 2 5) (W 3 4) (W 3 5) (W 4 5)
  · refine ⟨0, 2, 3, 4, by decide, by decide, ?_⟩
    rw [if_neg (by decide), toldW_eq]
    unfold fourW
    try simp only [h10, h20, h30, h40, h50, h21, h31, h41, h51, h32, h42, h52, h43, h53, h54]
    exact pf_15 (W 0 1) (W 0 2) (W 0 3) (W 0 4) (W 0 5) (W 1 2) (W 1 3) (W 1 4) (W 1 5) (W 2 3) (W 2 4) (W 2 5) (W 3 4) (W 3 5) (W 4 5)
  · refine ⟨0, 1, 4, 5, by decide, by decide, ?_⟩
    rw [if_pos (by decide), toldW_eq]
    unfold fourW
    try simp only [h10, h20, h30, h40, h50, h21, h31, h41, h51, h32, h42, h52, h43, h53, h54]
    exact pf_23 (W 0 1) (W 0 2) (W 0 3) (W 0 4) (W 0 5) (W 1 2) (W 1 3) (W 1 4) (W 1 5) (W 2 3) (W 2 4) (W 2 5) (W 3 4) (W 3 5) (W 4 5)
  · refine ⟨0, 1, 3, 5, by decide, by decide, ?_⟩
    rw [if_neg (by decide), toldW_eq]
    unfold fourW
    try simp only [h10, h20, h30, h40, h50, h21, h31, h41, h51, h32, h42, h52, h43, h53, h54]
    exact pf_24 (W 0 1) (W 0 2) (W 0 3) (W 0 4) (W 0 5) (W 1 2) (W 1 3) (W 1 4) (W 1 5) (W 2 3) (W 2 4) (W 2 5) (W 3 4) (W 3 5) (W 4 5)
  · refine ⟨0, 1, 3, 4, by decide, by decide, ?_⟩
    rw [if_pos (by decide), toldW_eq]
    unfold fourW
    try simp only [h10, h20, h30, h40, h50, h21, h31, h41, h51, h32, h42, h52, h43, h53, h54]
    exact pf_25 (W 0 1) (W 0 2) (W 0 3) (W 0 4) (W 0 5) (W 1 2) (W 1 3) (W 1 4) (W 1 5) (W 2 3) (W 2 4) (W 2 5) (W 3 4) (W 3 5) (W 4 5)
  · refine ⟨0, 1, 2, 5, by decide, by decide, ?_⟩
    rw [if_pos (by decide), toldW_eq]
    unfold fourW
    try simp only [h10, h20, h30, h40, h50, h21, h31, h41, h51, h32, h42, h52, h43, h53, h54]
    exact pf_34 (W 0 1) (W 0 2) (W 0 3) (W 0 4) (W 0 5) (W 1 2) (W 1 3) (W 1 4) (W 1 5) (W 2 3) (W 2 4) (W 2 5) (W 3 4) (W 3 5) (W 4 5)
  · refine ⟨0, 1, 2, 4, by decide, by decide, ?_⟩
    rw [if_neg (by decide), toldW_eq]
    unfold fourW
    try simp only [h10, h20, h30, h40, h50, h21, h31, h41, h51, h32, h42, h52, h43, h53, h54]
    exact pf_35 (W 0 1) (W 0 2) (W 0 3) (W 0 4) (W 0 5) (W 1 2) (W 1 3) (W 1 4) (W 1 5) (W 2 3) (W 2 4) (W 2 5) (W 3 4) (W 3 5) (W 4 5)
  · refine ⟨0, 1, 2, 3, by decide, by decide, ?_⟩
    rw [if_pos (by decide), toldW_eq]
    unfold fourW
    try simp only [h10, h20, h30, h40, h50, h21, h31, h41, h51, h32, h42, h52, h43, h53, h54]
    exact pf_45 (W 0 1) (W 0 2) (W 0 3) (W 0 4) (W 0 5) (W 1 2) (W 1 3) (W 1 4) (W 1 5) (W 2 3) (W 2 4) (W 2 5) (W 3 4) (W 3 5) (W 4 5)
end Mine
end
section
theorem Mine.freshP7 : True := by
  w_top off
  trivial
namespace Mine
theorem off_bound (ns : List Int) (p : Nat) : -halfN ≤ offW ns p ∧ offW ns p < halfN := by
  unfold offW
  have h1 := Int.fmod_nonneg_of_pos (ns.getD p 0 + halfN) (show (0 : Int) < 2 * halfN by decide)
  have h2 := Int.fmod_lt_of_pos (ns.getD p 0 + halfN) (show (0 : Int) < 2 * halfN by decide)
  omega
theorem base_bound (p : Nat) : baseC.getD p 0 ≤ 9 := by
  rcases Nat.lt_or_ge p 15 with h | h
  · exact (show ∀ p, p < 15 → baseC.getD p 0 ≤ 9 by decide) p h
  · rw [List.getD_eq_getElem?_getD, List.getElem?_eq_none (by exact h)]; decide
theorem pair_le (p : Nat) : ((pairsF 6).getD p (0, 0)).1 ≤ ((pairsF 6).getD p (0, 0)).2 := by
  rcases Nat.lt_or_ge p 15 with h | h
  · exact Nat.le_of_lt (pairs_fact p h).1
  · rw [List.getD_eq_getElem?_getD, List.getElem?_eq_none (by exact h)]; decide
theorem wAt_bound (ns : List Int) : ∀ p i j, -(halfN + 9) ≤ wAt ns p i j ∧ wAt ns p i j ≤ halfN + 9
  | 0, i, j => by
    show -(halfN + 9) ≤ 0 ∧ (0 : Int) ≤ halfN + 9
    decide
  | p + 1, i, j => by
    have ih := wAt_bound ns p i j
    have hb := base_bound p
    have ho := off_bound ns p
    have hh : (0 : Int) ≤ halfN := by decide
    unfold wAt wStep updM
    try dsimp only
    split
    · omega
    · split
      · omega
      · exact ih
theorem wAt_anti (ns : List Int) : ∀ p i j, i < j → wAt ns p j i = -wAt ns p i j
  | 0, i, j, _ => rfl
  | p + 1, i, j, h => by
    have ih := wAt_anti ns p i j h
    have hle := pair_le p
    unfold wAt wStep updM
    try dsimp only
    generalize ((pairsF 6).getD p (0, 0)).1 = a at hle
    generalize ((pairsF 6).getD p (0, 0)).2 = b at hle
    by_cases h1 : i = a ∧ j = b
    · obtain ⟨rfl, rfl⟩ := h1
      rw [if_pos ⟨rfl, rfl⟩, if_neg (by omega), if_pos ⟨rfl, rfl⟩]
    · rw [if_neg (by omega), if_neg (show ¬ (j = a ∧ i = b) by omega), if_neg (show ¬ (j = a ∧ i = b) by omega), if_neg (show ¬ (i = b ∧ j = a) by omega), if_neg h1, if_neg h1]
      exact ih
end Mine
end
section
theorem Mine.freshT40 : True := by
  w_top off
  trivial
namespace Mine
variable {w : World} {mg mb : Str → Option Value}
noncomputable def lawB (w : World) : {b : List Stmt // (fdAt w 287).body = .stmts b} := ⟨[_, _, _, _, _, _, _, _, _, _, _, _, _, _, _], by with_unfolding_all rfl⟩
noncomputable def lawS (w : World) : {s : Scope // (fdAt w 287).scope = s} := ⟨{ kind := _, names := _, isGenerator := _, isCoroutine := _, more := _ }, by with_unfolding_all rfl⟩
/-- what stands when the law has set out -/
structure LawSt (own : List (Addr × Obj)) (ns : List Int) (S Wv Dr x dx H : Addr) (hsh : Int) (th : Tok) : Prop where
  mat : ∃ rows eS, (S, listOf rows.toArray eS) ∈ own ∧ MatB own rows (wAt ns 15)
  ways : ∃ acc eW, (Wv, listOf acc.toArray eW) ∈ own ∧ WaysK acc own waysL
  dress : ∃ vd eD, (Dr, listOf vd.toArray eD) ∈ own ∧ StrsAre vd (dressF ns)
  x : (x, instObj 245 dx) ∈ own
  dx : (dx, hdD hsh th H) ∈ own
theorem law_start {prog : Program} {A : Around} {R : Result → Shared → Prop} {hp h : Heap} {gs : Array GenState} {dr : Drawn} {tk : Nat} {os : OsState} {D₀ L f : Addr} {cd : Value} {cl : List (Str × Addr)} {nm : Str} {vs : List Value} {ns : List Int} {mu : List (Addr × Obj)} (G : Gl w mg mb hp) (F : Fr hp L h (lk [("script", .ref D₀)])) (N : News hp L h mu)
    (hl : hp.IsList D₀ vs.toArray) (hi : IntsAre vs ns) (hn : ns.length ≤ 63) (hh : A.handled = none) (hroom : A.depth + 40 < recursionLimit) (hu : A.units + 100 < cLine)
    (hK : ∀ h' tk' own S Wv Dr x dx H hsh th, Fr hp L h' (lk [("table", .ref x), ("dress", .ref Dr), ("ways", .ref Wv), ("worths", .ref S), ("script", .ref D₀)]) → News hp L h' ((H, listOf #[] 0) :: (own ++ mu)) → (∀ p ∈ own ++ mu, p.1 ≠ H) → (∀ p ∈ own, ∀ q ∈ mu, p.1 ≠ q.1) → LawSt own ns S Wv Dr x dx H hsh th →
      wpAny (model prog w) (A.deeper (envG nm (lawS w).1 L f cd cl)) (execs ((lawB w).1.drop 4) (envG nm (lawS w).1 L f cd cl)) (Rt R) (Lv (model prog w) A (envG nm (lawS w).1 L f cd cl) R) ⟨h', gs, dr, tk', os⟩) :
    wpAny (model prog w) (A.deeper (envG nm (lawS w).1 L f cd cl)) (execs (lawB w).1 (envG nm (lawS w).1 L f cd cl)) (Rt R) (Lv (model prog w) A (envG nm (lawS w).1 L f cd cl) R) ⟨h, gs, dr, tk, os⟩ := by
  rw [show (lawB w).1 = _ :: _ :: _ :: _ :: (lawB w).1.drop 4 from rfl]
  have hh' : (A.deeper (envG nm (lawS w).1 L f cd cl)).handled = none := hh
  iterate 8 walk1
  refine cw_ G F ?_
  refine worths_spec (G.keeps F.keep) (stays_list F.keep hl) hi hn hh' (room1 hroom) fun h1 tk1 S own1 rows eS k1 Y1 m1 M1 => ?_
  obtain ⟨N1, s1⟩ := news_fresh F N k1 Y1
  have F1 := fr_ext (as := []) F (fun _ h => nomatch h) k1
  clear F N k1 Y1
  iterate 24 walk1
  rename_i h2 tk2 F2 N2 lw h3 F3 N3 q3
  clear F1 F2 N1 N2
  refine cw_ G F3 ?_
  refine ways_spec 3 (ps := [0, 1, 2, 3, 4, 5]) (G.keeps F3.keep) (PySem.IsL.isList (n := 0) (N3 (lw, _) (.head _)).1) (by repeat (first | exact .nil | refine .cons _ _ ?_)) rfl (by decide) hh' (by show A.depth + 1 + 10 + 3 < _; omega) (by show A.units + 3 + 10 * 3 + 10 < _; omega) fun h4 tk4 Wv acc own2 eW k4 Y4 m4 M4 => ?_
  rw [ways_eq] at M4
  replace N3 : News hp L h3 (mu ++ own1) := fun p hp => N3 p (.tail _ hp)
  obtain ⟨N4, s4⟩ := news_fresh F3 N3 k4 Y4
  have F4 := fr_ext (as := []) F3 (fun _ h => nomatch h) k4
  clear F3 N3 k4 Y4 q3
  iterate 4 walk1
  rename_i h5 tk5 F5 N5
  clear F4 N4
  iterate 6 walk1
  refine cw_ G F5 ?_
  refine dress_spec (G.keeps F5.keep) (stays_list F5.keep hl) hi hn hh' (room1 hroom) fun h6 tk6 Dr vd k6 e6 e6' M6 => ?_
  have Y6 : Fresh h5 h6 [(Dr, listOf vd.toArray 0)] := fun p hp => by rw [List.mem_singleton.mp hp]; exact ⟨e6, e6'⟩
  obtain ⟨N6, s6⟩ := news_fresh F5 N5 k6 Y6
  have F6 := fr_ext (as := []) F5 (fun _ h => nomatch h) k6
  clear F5 N5 k6 Y6 e6 e6'
  iterate 4 walk1
  rename_i h7 tk7 F7 N7
  clear F6 N6
  iterate 2 walk1
  refine callWith_K0 (G.keeps F7.keep).X (by with_unfolding_all rfl) ?_
  refine hdr_new F7 N7 G hh' (room1 hroom) fun x dx H hsh th h8 tk8 F8 N8 q8 l8 l8' => ?_
  clear F7 N7
  iterate 2 walk1
  rename_i h9 tk9 F9 N9
  have hin : ∀ p, p ∈ own1 ++ own2 ++ [(Dr, listOf vd.toArray 0)] → p ∈ mu ++ own1 ++ own2 ++ [(Dr, listOf vd.toArray 0)] := fun p hp => by
    simp only [List.mem_append] at hp ⊢
    rcases hp with (hp | hp) | hp
    · exact .inl (.inl (.inr hp))
    · exact .inl (.inr hp)
    · exact .inr hp
  have hmu : ∀ p, p ∈ mu → p ∈ mu ++ own1 ++ own2 ++ [(Dr, listOf vd.toArray 0)] := fun p hp => by
    simp only [List.mem_append]
    exact .inl (.inl (.inl hp))
  refine hK h9 _ ((x, instObj 245 dx) :: (dx, hdD hsh th H) :: (own1 ++ own2 ++ [(Dr, listOf vd.toArray 0)])) S Wv Dr x dx H hsh th F9 (fun p hp => ?_) (fun p hp => ?_) (fun p hp q hq => ?_) ⟨⟨rows, eS, ?_, M1.sub ?_⟩, ⟨acc, eW, ?_, M4.sub ?_⟩, ⟨vd, 0, ?_, M6⟩, .head _, .tail _ (.head _)⟩
  · refine N9 p ?_
    rcases List.mem_cons.mp hp with rfl | hp
    · exact .head _
    rcases List.mem_append.mp hp with hp | hp
    · rcases List.mem_cons.mp hp with rfl | hp
      · exact .tail _ (.head _)
      rcases List.mem_cons.mp hp with rfl | hp
      · exact .tail _ (.tail _ (.head _))
      · exact .tail _ (.tail _ (.tail _ (hin p hp)))
    · exact .tail _ (.tail _ (.tail _ (hmu p hp)))
  · rcases List.mem_append.mp hp with hp | hp
    · rcases List.mem_cons.mp hp with rfl | hp
      · exact Nat.ne_of_lt l8'
      rcases List.mem_cons.mp hp with rfl | hp
      · exact Nat.ne_of_lt (Nat.lt_trans l8 l8')
      · exact Nat.ne_of_lt (Nat.lt_trans (q8 p (hin p hp)) (Nat.lt_trans l8 l8'))
    · exact Nat.ne_of_lt (Nat.lt_trans (q8 p (hmu p hp)) (Nat.lt_trans l8 l8'))
  · have hqx := q8 q (hmu q hq)
    rcases List.mem_cons.mp hp with rfl | hp
    · exact Nat.ne_of_gt (Nat.lt_trans hqx l8)
    rcases List.mem_cons.mp hp with rfl | hp
    · exact Nat.ne_of_gt hqx
    simp only [List.mem_append] at hp
    rcases hp with (hp | hp) | hp
    · exact (s1 p hp).1 q hq
    · exact (s4 p hp).1 q (List.mem_append_left _ hq)
    · exact (s6 p hp).1 q (List.mem_append_left _ (List.mem_append_left _ hq))
  · exact .tail _ (.tail _ (List.mem_append_left _ (List.mem_append_left _ m1)))
  · exact fun p hp => .tail _ (.tail _ (List.mem_append_left _ (List.mem_append_left _ hp)))
  · exact .tail _ (.tail _ (List.mem_append_left _ (List.mem_append_right _ m4)))
  · exact fun p hp => .tail _ (.tail _ (List.mem_append_left _ (List.mem_append_right _ hp)))
  · exact .tail _ (.tail _ (List.mem_append_right _ (.head _)))
end Mine
end
section
theorem Mine.freshT41 : True := by
  w_top off
  trivial
namespace Mine
def numT (n : Int) : Str := Str.ofString (toString n)
theorem num_chars (n : Int) : ∀ c ∈ (numT n).cps.toList, c = 45 ∨ (48 ≤ c ∧ c ≤ 57) := by
  intro c hc
  rcases Nat.decEq c 45 with h | h
  · right
    rcases Nat.lt_or_ge c 48 with a | a
    · exact absurd hc (PyProof.Rows.int_text_free' c ⟨h, .inl a⟩ n)
    · rcases Nat.lt_or_ge 57 c with b | b
      · exact absurd hc (PyProof.Rows.int_text_free' c ⟨h, .inr b⟩ n)
      · exact ⟨a, b⟩
  · exact .inl h
theorem num_plain (n : Int) : ∀ c ∈ (numT n).cps.toList, 32 ≤ c ∧ c < 127 := fun c hc => by
  rcases num_chars n c hc with h | h <;> omega
theorem digits_len (m : Nat) (h : m < 10 ^ 300) : (Nat.toDigits 10 m).length ≤ 300 := by
  have e := toString_length_le (v := (m : Int)) (k := 300) (by omega) (by decide) (by exact_mod_cast h)
  have := KIN.signs_num m
  have z : (Str.ofString (toString ((m : Nat) : Int))).length = (Str.ofString (toString ((m : Nat) : Int))).cps.toList.length := by simp [Str.length]
  rw [z, this, List.length_map] at e
  exact e
theorem digits_all (m : Nat) : PySem.NumText.AllDigits ((Nat.toDigits 10 m).map Char.toNat) := by
  intro c hc
  obtain ⟨ch, hch, e⟩ := List.mem_map.mp hc
  have r := digit_range (Nat.isDigit_of_mem_toDigits (by decide) (by decide) hch)
  rw [← e]
  exact r
theorem digits_ne (m : Nat) : (Nat.toDigits 10 m).map Char.toNat ≠ [] := by
  intro e
  have h := toDigits_len_ge 10 m
  rw [List.map_eq_nil_iff.mp e] at h
  exact absurd h (by decide)
theorem num_neg (m : Nat) : (numT (Int.negSucc m)).cps.toList = 45 :: (Nat.toDigits 10 (m + 1)).map Char.toNat := by
  unfold numT
  rw [signs_ofString]
  show (("-" ++ Nat.repr (m + 1)) : String).toList.map Char.toNat = _
  rw [String.toList_append, List.map_append, Nat.toList_repr]
  rfl
theorem num_back {n : Int} (h : n.natAbs < 10 ^ 300) : PySem.intText? (numT n) = some n ∧ (numT n).length ≤ 301 := by
  have z : (numT n).length = (numT n).cps.toList.length := by simp [Str.length]
  cases n with
  | ofNat m =>
    have e : (numT (Int.ofNat m)).cps.toList = (Nat.toDigits 10 m).map Char.toNat := KIN.signs_num m
    have hl := digits_len m h
    rw [e, List.length_map] at z
    refine ⟨?_, by omega⟩
    rw [intText_digits (by rw [e]; exact digits_all m) (by rw [e]; exact digits_ne m) (by omega), e, KIN.val_back]
    rfl
  | negSucc m =>
    have e := num_neg m
    have hl := digits_len (m + 1) h
    rw [e, List.length_cons, List.length_map] at z
    refine ⟨?_, by omega⟩
    rw [intText_neg e (digits_all (m + 1)) (digits_ne (m + 1)) (by omega), KIN.val_back]
    rfl
end Mine
end
section
theorem Mine.freshP8 : True := by
  w_top off
  trivial
namespace Mine
def nmL : Nat → Str
  | 0 => ⟨#[97]⟩
  | 1 => ⟨#[97, 98]⟩
  | 2 => ⟨#[97, 99]⟩
  | _ => ⟨#[97, 98, 99]⟩
theorem kindN_lt (way : List (Nat × Nat)) : kindN way < 4 := by unfold kindN; omega
theorem nm_low : ∀ k, k < 4 → Txt.lower (nmL k) = nmL k ∧ Txt.lower (Txt.upper (nmL k)) = nmL k := by decide +kernel
theorem nm_plain : ∀ k, k < 4 → (∀ c ∈ (nmL k).cps.toList, 32 ≤ c ∧ c < 127) ∧ (∀ c ∈ (Txt.upper (nmL k)).cps.toList, 32 ≤ c ∧ c < 127) ∧ (nmL k).length ≤ 3 ∧ (Txt.upper (nmL k)).length ≤ 3 := by decide +kernel
theorem nm_inj : ∀ k, k < 4 → ∀ j, j < 4 → ((nmL k == nmL j) = (k == j)) := by decide +kernel
theorem nm_ask : Txt.lower (Str.ofString "a") = nmL 0 ∧ Txt.lower (Str.ofString "AB") = nmL 1 ∧ Txt.lower (Str.ofString "Ac") = nmL 2 ∧ Txt.lower (Str.ofString "aBC") = nmL 3 := by decide +kernel
end Mine
end
section
theorem Mine.freshT39 : True := by
  w_top off
  trivial
namespace Mine
variable {w : World} {mg mb : Str → Option Value}
/-- the names that stay bound -/
structure Bound (l : List (Str × Value)) (S Wv Dr x D₀ : Addr) : Prop where
  table : lk l (Str.ofString "table") = some (.ref x)
  dress : lk l (Str.ofString "dress") = some (.ref Dr)
  ways : lk l (Str.ofString "ways") = some (.ref Wv)
  worths : lk l (Str.ofString "worths") = some (.ref S)
  script : lk l (Str.ofString "script") = some (.ref D₀)
theorem f_strI {prog : Program} {A : Around} {E : Value → Shared → Prop} {hp : Heap} {gs : Array GenState} {dr : Drawn} {tk : Nat} {os : OsState} {a : Int} {t : Tok} {Q : Value → Shared → Prop} (ha : a.natAbs.log2 < 1920) (h : Q (.str (numT a) tk) ⟨hp, gs, dr, tk + 1, os⟩) : wpAny (model prog w) A (call (.type "str") [.int a t]) Q E ⟨hp, gs, dr, tk, os⟩ := P.str_of_int ha h
theorem f_intT {prog : Program} {A : Around} {E : Value → Shared → Prop} {hp : Heap} {gs : Array GenState} {dr : Drawn} {tk : Nat} {os : OsState} {a : Int} {t : Tok} {Q : Value → Shared → Prop} (ha : a.natAbs < 10 ^ 300) (h : Q (.int a tk) ⟨hp, gs, dr, tk + 1, os⟩) : wpAny (model prog w) A (call (.type "int") [.str (numT a) t]) Q E ⟨hp, gs, dr, tk, os⟩ :=
  KIN.call_text (num_back ha).1 (Nat.le_trans (num_back ha).2 (by decide)) h
def nameOf (way : List (Nat × Nat)) : Str := Str.ofString "a" ++ (if crossN way 1 % 2 == 0 then Str.ofString "" else Str.ofString "b") ++ (if crossN way 2 % 2 == 0 then Str.ofString "" else Str.ofString "c")
def entF (ns : List Int) (t : Nat) : Str × Str := (if t % 3 = 1 then Txt.upper (nameOf (waysL.getD t [])) else nameOf (waysL.getD t []), numT (prodW (wAt ns 15) (waysL.getD t [])))
def entsF (ns : List Int) (t : Nat) : List (Str × Str) := (List.range t).map (entF ns)
def xOf (way : List (Nat × Nat)) (k : Nat) : Str := if crossN way k % 2 == 0 then Str.ofString "" else if k = 1 then Str.ofString "b" else Str.ofString "c"
def nameP (way : List (Nat × Nat)) : Nat → Str
  | 0 => Str.ofString "a"
  | 1 => Str.ofString "a"
  | k + 2 => nameP way (k + 1) ++ xOf way (k + 1)
theorem xOf_len (way : List (Nat × Nat)) (k : Nat) : (xOf way k).length ≤ 1 := by
  unfold xOf
  split
  · decide
  · split <;> decide
theorem nameP_len' (way : List (Nat × Nat)) : ∀ k, (nameP way k).length ≤ k + 1
  | 0 => by show (Str.ofString "a").length ≤ 1; decide
  | 1 => by show (Str.ofString "a").length ≤ 2; decide
  | k + 2 => by
    show (nameP way (k + 1) ++ xOf way (k + 1)).length ≤ k + 2 + 1
    rw [Str.length_append]
    have h1 := nameP_len' way (k + 1)
    have h2 := xOf_len way (k + 1)
    omega
theorem nameP_len (way : List (Nat × Nat)) (k : Nat) (h : k < 4) : (nameP way k).length ≤ 100 := by
  have := nameP_len' way k
  omega
theorem nameOf_kind (way : List (Nat × Nat)) : nameOf way = nmL (kindN way) := by
  unfold nameOf kindN
  rcases Nat.mod_two_eq_zero_or_one (crossN way 1) with a | a <;> rcases Nat.mod_two_eq_zero_or_one (crossN way 2) with b | b <;> rw [a, b] <;> decide
theorem ent_facts (ns : List Int) (t : Nat) : Txt.lower (entF ns t).1 = nmL (kindN (waysL.getD t [])) ∧ (∀ c ∈ (entF ns t).1.cps.toList, 32 ≤ c ∧ c < 127) ∧ (entF ns t).1.length ≤ 3 := by
  have h := kindN_lt (waysL.getD t [])
  unfold entF
  dsimp only
  rw [nameOf_kind]
  split
  · exact ⟨(nm_low _ h).2, (nm_plain _ h).2.1, (nm_plain _ h).2.2.2⟩
  · exact ⟨(nm_low _ h).1, (nm_plain _ h).1, (nm_plain _ h).2.2.1⟩
theorem name_eq {way : List (Nat × Nat)} (h : way ∈ waysL) : nameP way 3 = nameOf way := by
  show Str.ofString "a" ++ xOf way 1 ++ xOf way 2 = _
  unfold nameOf xOf
  rw [if_pos rfl, if_neg (show ¬ 2 = 1 by decide)]
def prodP (W : Nat → Nat → Int) (way : List (Nat × Nat)) : Nat → Int
  | 0 => 1
  | k + 1 => prodP W way k * W (way.getD k (0, 0)).1 (way.getD k (0, 0)).2
theorem sm_w (ns : List Int) (p i j : Nat) : Sm 110 (wAt ns p i j) := by
  have := wAt_bound ns p i j
  unfold Sm
  have h1 : halfN + 9 < 2 ^ 110 := by decide
  omega
theorem sm_prodP (ns : List Int) (way : List (Nat × Nat)) : ∀ k, Sm (110 * k + 1) (prodP (wAt ns 15) way k)
  | 0 => by unfold Sm prodP; decide
  | k + 1 => ((sm_prodP ns way k).mul (sm_w ns 15 _ _)).le (by omega)
theorem sm_log {k : Nat} {a : Int} (h : Sm k a) (hk : k < 1920) : a.natAbs.log2 < 1920 := by
  unfold Sm at h
  by_cases e : a.natAbs = 0
  · rw [e]; decide
  · exact Nat.lt_of_lt_of_le ((Nat.log2_lt e).mpr h) (Nat.le_of_lt hk)
theorem dressF_len (ns : List Int) : (dressF ns).length = 7 := by unfold dressF; rw [List.length_set, List.length_replicate]
theorem dressF_short (ns : List Int) : ∀ s ∈ dressF ns, s.length ≤ 2 := by
  intro s hs
  unfold dressF at hs
  rcases List.mem_or_eq_of_mem_set hs with h | h
  · rw [(List.mem_replicate.mp h).2]; decide
  · rw [h]
    exact (show ∀ i, i < 6 → (things.getD i ⟨#[]⟩).length ≤ 2 by decide) _ (mod6 ns)
theorem ways_len : ∀ way ∈ waysL, way.length = 3 := by decide
theorem ways_pts : ∀ way ∈ waysL, ∀ pq ∈ way, pq.1 < pq.2 ∧ pq.2 < 6 := by decide

theorem EntB.push {own : List (Addr × Obj)} {refs : List Value} {ents : List (Str × Str)} {e : Str × Str} {T : Addr} {t1 t2 : Tok} (x : EntB own refs ents) : EntB ((T, tupOf #[.str e.1 t1, .str e.2 t2]) :: own) (refs ++ [Value.ref T]) (ents ++ [e]) := by
  obtain ⟨a, b⟩ := x
  refine ⟨by rw [List.length_append, List.length_append, a]; rfl, fun i r h => ?_⟩
  rcases Nat.lt_or_ge i ents.length with q | q
  · rw [List.getElem?_append_left q] at h
    obtain ⟨t, u1, u2, e1, m⟩ := b i r h
    exact ⟨t, u1, u2, (List.getElem?_append_left (by rw [a]; exact q)).trans e1, .tail _ m⟩
  · rw [List.getElem?_append_right q] at h
    have hi : i = ents.length := by
      have := (List.getElem?_eq_some_iff.mp h).1
      rw [List.length_singleton] at this
      omega
    subst hi
    rw [Nat.sub_self] at h
    cases h
    exact ⟨T, t1, t2, by rw [← a, List.getElem?_append_right (Nat.le_refl _), Nat.sub_self]; rfl, .head _⟩
theorem entsF_succ (ns : List Int) (t : Nat) : entsF ns (t + 1) = entsF ns t ++ [entF ns t] := by
  unfold entsF
  rw [List.range_succ, List.map_append]
  rfl
theorem sm_num {k : Nat} {a : Int} (h : Sm k a) (hk : k ≤ 900) : a.natAbs < 10 ^ 300 := by
  unfold Sm at h
  exact Nat.lt_of_lt_of_le h (Nat.le_trans (Nat.pow_le_pow_right (by decide) hk) (by decide +kernel))
def forBody : Stmt → List Stmt
  | .For _ _ b _ _ => b
  | _ => []
def ifBody : Stmt → List Stmt
  | .If _ b _ _ => b
  | _ => []
noncomputable def lawI (w : World) : {b : List Stmt // ifBody ((forBody ((forBody ((lawB w).1.getD 4 (.Pass default))).getD 2 (.Pass default))).getD 2 (.Pass default)) = b} := ⟨[_, _, _, _], by with_unfolding_all rfl⟩
section
variable {prog : Program} {A : Around} {E : Value → Shared → Prop} {hp : Heap} {gs : Array GenState} {dr : Drawn} {tk : Nat} {os : OsState} {h₀ : Heap} {L l : Addr} {m : Str → Option Value} {news : List (Addr × Obj)} {Q : Value → Shared → Prop}
theorem f_lenM {vs : List Value} {ep : Nat} (N : News h₀ L hp news) (hm : (l, listOf vs.toArray ep) ∈ news) (hz : vs.length ≤ 2 ^ 20) (h : Q (.int ((vs.length : Nat) : Int) (tk + 1)) ⟨hp, gs, dr, tk + 1 + 1, os⟩) : wpAny (model prog w) A (call (.builtin "len") [.ref l]) Q E ⟨hp, gs, dr, tk, os⟩ :=
  PySem.Calls.call_len_list (PySem.IsL.isList (n := ep) (N _ hm).1) (by rw [List.size_toArray]; omega) (by rw [List.size_toArray]; exact h)
theorem f_sumM {vs : List Value} {ns : List Int} {ep : Nat} (F : Fr h₀ L hp m) (N : News h₀ L hp news) (hh : A.handled = none) (hm : (l, listOf vs.toArray ep) ∈ news) (hi : IntsAre vs ns)
    (h : ∀ h' tk' t, Fr h₀ L h' m → News h₀ L h' news → Q (.int ns.sum t) ⟨h', gs, dr, tk', os⟩) : wpAny (model prog w) A (call (.builtin "sum") [.ref l]) Q E ⟨hp, gs, dr, tk, os⟩ := by
  have hl := PySem.IsL.isList (n := ep) (N _ hm).1
  obtain ⟨xs, hxs⟩ := hi.allInts.items
  rw [hxs] at hl
  have e : (numsOf (intItems xs).toList).sum = ns.sum := by rw [← hxs, show vs.toArray.toList = vs from rfl, hi.numsOf]
  rw [nums_intItems] at e
  refine sum_intListG hh (s := ⟨hp, gs, dr, tk, os⟩) hl fun h' tk' t' hk => ?_
  rw [preSum_eq, List.take_of_length_le (by simp), e]
  exact h h' tk' t' (F.keeps hk) (news_keep N hk)
theorem isTup2 {T : Addr} {x y : Value} (h : hp.get? T = some (tupOf #[x, y])) : hp.IsTuple T #[x, y] := ⟨_, h, rfl, 0, rfl⟩
/-- two pairs of bools -/
theorem f_neB {T U : Addr} {a b c d : Bool} (hT : hp.get? T = some (tupOf #[.bool a, .bool b])) (hU : hp.get? U = some (tupOf #[.bool c, .bool d])) (hu : A.units < cLine) (h : Q (.bool (!(a == c && b == d))) ⟨hp, gs, dr, tk, os⟩) :
    wpAny (model prog w) A (compareOp .NotEq (.ref T) (.ref U)) Q E ⟨hp, gs, dr, tk, os⟩ := by
  refine PySem.SeqAt.RcNeAt.tuples (s := ⟨hp, gs, dr, tk, os⟩) (e := fun j => if j = 0 then a == c else b == d) (isTup2 hT) (isTup2 hU) hu (fun j h1 h2 => ?_) prog w E Q ?_
  · match j, h1, h2 with
    | 0, _, _ => exact PySem.SeqAt.EqAt.bool_bool a c
    | 1, _, _ => exact PySem.SeqAt.EqAt.bool_bool b d
    | n + 2, h1, _ => exact absurd h1 (by show ¬ (n + 2 < 2); omega)
  · revert h
    cases a <;> cases b <;> cases c <;> cases d <;> exact id
theorem f_slice {value slice : Expr} {l : Addr} {items : Array Value} {vl vu : Value} {lo hi : Option Int} {s : Shared}
    (F : Fr h₀ L s.heap m) (N : News h₀ L s.heap news) (hl : s.heap.IsList l items) (pl : IsPart vl lo) (pu : IsPart vu hi)
    (h : ∀ h', Fr h₀ L h' m → News h₀ L h' ((s.heap.objs.size + 1, listOf (slicePick items lo hi none) 0) :: news) → Q (.ref (s.heap.objs.size + 1)) { s with heap := h' })
    (hsz : items.size ≤ sizeLine) (hs : subscripted slice false (.ref l) (.ref s.heap.objs.size) = operate [.ref s.heap.objs.size, .ref l] (getItem (.ref l) (.ref s.heap.objs.size)) := by with_unfolding_all rfl) :
    wpAny (model prog w) A (subscriptTail value slice (.ref l) (.ref s.heap.objs.size)) Q E { s with heap := s.heap.push { cls := .type "slice", data := .fields #[vl, vu, .none] } } := by
  refine tail_any (Heap.IsList.typeIs (s := { s with heap := s.heap.push { cls := .type "slice", data := .fields #[vl, vu, .none] } }) (hl.push _)) list_getitem_lookup
    (wpAny_getItem_list_slice (hl.push _) (Heap.IsSliceOf.new ..) pl pu .none (by simp) ?_ hsz) hs
  have N1 := News.push (F.push { cls := .type "slice", data := .fields #[vl, vu, .none] }) (N.grown fun _ _ e => Heap.get?_push_of_some _ e) { cls := .type "list", data := .seq (slicePick items lo hi none) }
  rw [Heap.size_push] at N1
  show Q (.ref (s.heap.push _).objs.size) _
  rw [Heap.size_push]
  exact h _ ((F.push _).push _) N1
theorem f_char {value slice : Expr} {x : Str} {i : Int} {c : Nat} {t u : Tok} (hr : (decide (i < -(2 ^ 63 : Int)) || decide (i ≥ 2 ^ 63)) = false) (hc : (seqIndex? i x.length).bind (x.cps[·]?) = some c)
    (h : Q (.str ⟨#[c]⟩ tk) ⟨hp, gs, dr, tk + 1, os⟩) (hs : subscripted slice false (.str x t) (.int i u) = operate [.str x t, .int i u] (getItem (.str x t) (.int i u)) := by with_unfolding_all rfl) :
    wpAny (model prog w) A (subscriptTail value slice (.str x t) (.int i u)) Q E ⟨hp, gs, dr, tk, os⟩ :=
  tail_any (typeIs_str _ x t) PySem.F.slot_str_getitem.lookup (P.getItem_str hr hc h) hs
/-- a tuple's iterator at its i-th item -/
structure TIt (o : Obj) (T : Addr) (i : Nat) : Prop where
  c : o.cls = .type "tuple_iterator"
  d : o.data = .fields #[.ref T, .int (i : Int) 0]
theorem f_iter_tup {T : Addr} {its : Array Value} (F : Fr h₀ L hp m) (N : News h₀ L hp news) (hT : hp.IsTuple T its)
    (h : ∀ I h' o, Fr h₀ L h' m → News h₀ L h' ((I, o) :: news) → (∀ p ∈ news, p.1 < I) → TIt o T 0 → Q (.ref I) ⟨h', gs, dr, tk, os⟩) : wpAny (model prog w) A (pyIter (.ref T)) Q E ⟨hp, gs, dr, tk, os⟩ := by
  refine wpAny_pyIter_tuple hT ?_
  exact h _ _ { cls := .type "tuple_iterator", data := .fields #[.ref T, .int 0 0] } (F.push _) (News.push F N _) (fun p hp => Heap.lt_size (N p hp).1) ⟨rfl, rfl⟩
theorem next_tup {T I : Addr} {o : Obj} {x : Value} {its : Array Value} {i : Nat} {Q : Option Value → Shared → Prop} (F : Fr h₀ L hp m) (N : News h₀ L hp ((I, o) :: news)) (hne : ∀ p ∈ news, p.1 ≠ I) (ho : TIt o T i) (hT : hp.IsTuple T its) (hx : its[i]? = some x)
    (h : ∀ h' o', Fr h₀ L h' m → News h₀ L h' ((I, o') :: news) → TIt o' T (i + 1) → Q (some x) ⟨h', gs, dr, tk, os⟩) : wpAny (model prog w) A (pyNext (.ref I)) Q E ⟨hp, gs, dr, tk, os⟩ := by
  refine wpAny_pyNext_tuple_item (it := I) (t := T) (i := i) ⟨o, (N _ (.head _)).1, ho.c, ho.d⟩ hT hx fun h' hit hs => ?_
  obtain ⟨o', ho', hc', hd'⟩ := hit
  obtain ⟨F', N'⟩ := led_set F N hne hs ho'
  exact h h' o' F' N' ⟨hc', hd'⟩
theorem next_tup_end {T I : Addr} {o : Obj} {its : Array Value} {i : Nat} {Q : Option Value → Shared → Prop} (hh : A.handled = none) (F : Fr h₀ L hp m) (N : News h₀ L hp ((I, o) :: news)) (hne : ∀ p ∈ news, p.1 ≠ I) (ho : TIt o T i) (hT : hp.IsTuple T its) (hx : its[i]? = none)
    (h : ∀ h', Fr h₀ L h' m → News h₀ L h' news → Q none ⟨h', gs, dr, tk, os⟩) : wpAny (model prog w) A (pyNext (.ref I)) Q E ⟨hp, gs, dr, tk, os⟩ := by
  refine wpAny_pyNext_tuple_end (t := T) (i := i) hh ⟨o, (N _ (.head _)).1, ho.c, ho.d⟩ hT hx fun h' hs => ?_
  have z := N _ (.head _)
  have k : Ext [I] hp h' := fun b o hb e => hs b o (fun q => hb (List.mem_singleton.mpr q)) e
  exact h h' (fr_ext F (fun a ha => by rw [List.mem_singleton.mp ha]; exact z.2) k) (news_ext N k fun p hp => .inl ⟨.tail _ hp, fun q => hne p hp (List.mem_singleton.mp q)⟩)
end
end Mine
end
section
local macro_rules | `(tactic| walk_at "zz") => `(tactic| fail)
theorem Mine.freshT43 : True := by
  w_top off
  trivial
namespace Mine
variable {w : World} {mg mb : Str → Option Value}
def cntF (way : List (Nat × Nat)) (p q j : Nat) : Nat := ((way.take j).filter fun uv => decide (p < uv.2) && decide (uv.2 < q)).length
theorem cntF_step {way : List (Nat × Nat)} {p q j a b : Nat} (h : way[j]? = some (a, b)) : cntF way p q (j + 1) = cntF way p q j + (if p < b ∧ b < q then 1 else 0) := by
  unfold cntF
  rw [List.take_add_one, h, List.filter_append, List.length_append]
  by_cases c : p < b ∧ b < q
  · rw [if_pos c]
    simp [c.1, c.2]
  · rw [if_neg c]
    have : (decide (p < b) && decide (b < q)) = false := by
      rw [Bool.and_eq_false_iff, decide_eq_false_iff_not, decide_eq_false_iff_not]
      omega
    simp [this]
theorem law_cross {prog : Program} {A : Around} {E : Value → Shared → Prop} {hp h : Heap} {gs : Array GenState} {dr : Drawn} {tk : Nat} {os : OsState} {L f cp cq Wv lw : Addr} {cd : Value} {nm nmv : Str} {l : List (Str × Value)} {news : List (Addr × Obj)} {Q : Flow → Shared → Prop} {way : List (Nat × Nat)} {k p q t eW ew : Nat} {acc us : List Value} {op oq : Obj} {tkk tt tn tp tq : Tok} (G : Gl w mg mb hp)
    (F : Fr hp L h (lk l)) (N : News hp L h news) (hcp : (cp, op) ∈ news) (hcq : (cq, oq) ∈ news) (dP : op.data = .cell (some (.int (p : Nat) tp))) (dQ : oq.data = .cell (some (.int (q : Nat) tq)))
    (hW : (Wv, listOf acc.toArray eW) ∈ news) (hv : acc[t]? = some (.ref lw)) (hlw : (lw, listOf us.toArray ew) ∈ news) (hul : us.length = way.length) (hus : ∀ (i : Nat) (pq : Nat × Nat), way[i]? = some pq → ∃ (t : Addr) (t1 t2 : Tok), us[i]? = some (.ref t) ∧ (t, tupOf #[.int (pq.1 : Nat) t1, .int (pq.2 : Nat) t2]) ∈ news)
    (hwl : way.length = 3) (hpq : way[k]? = some (p, q)) (hk : k = 1 ∨ k = 2) (ht : t < 15)
    (lWays : lk l (Str.ofString "ways") = some (.ref Wv)) (lt : lk l (Str.ofString "t") = some (.int (t : Nat) tt)) (lkk : lk l (Str.ofString "k") = some (.int (k : Nat) tkk)) (ln : lk l (Str.ofString "name") = some (.str nmv tn)) (ltk : lk l (Str.ofString "taken") = some (.bool (crossN way k % 2 == 0))) (hz : nmv.length ≤ 100)
    (hh : A.handled = none) (hu : A.units + 50 < cLine)
    (hK : ∀ h' tk' l' tn', Fr hp L h' (lk l') → News hp L h' news → (∀ y, (y == Str.ofString "crossed") = false → (y == Str.ofString "name") = false → lk l' y = lk l y) → lk l' (Str.ofString "name") = some (.str (nmv ++ xOf way k) tn') → Q .next ⟨h', gs, dr, tk', os⟩) :
    wpAny (model prog w) A (execs ((lawI w).1.drop 1) (envG nm (lawS w).1 L f cd [("q", cq), ("p", cp)])) Q E ⟨h, gs, dr, tk, os⟩ := by
  unfold lawI
  dsimp only [List.drop_succ_cons, List.drop_zero]
  have X₀ := G.X
  iterate 7 walk1
  refine f_comp [("q", cq), ("p", cp)] (by intro _; rfl) (by kernel_rfl) (by rfl) (by decide) ?_
  iterate 4 walk1
  refine at_mem N hW (by omega) hv ?_
  iterate 5 walk1
  refine f_slice (s := ⟨h, gs, dr, tk, os⟩) F N (PySem.IsL.isList (n := ew) (N _ hlw).1) .none (.int _ _) (fun h1 F1 N1 => ?_) (by rw [List.size_toArray, sizeLine_eq, hul, hwl]; decide)
  have e4 : slicePick us.toArray none (some (k : Int)) none = (us.take k).toArray := slicePick_upto' us.toArray k
  rw [e4] at N1
  dsimp only at N1 ⊢
  have qSL : ∀ z ∈ news, z.1 < h.objs.size + 1 := fun z hz => Nat.lt_succ_of_lt (Heap.lt_size (N z hz).1)
  obtain ⟨SL, hSL⟩ : ∃ SL, SL = h.objs.size + 1 := ⟨_, rfl⟩
  rw [← hSL] at N1 qSL ⊢
  have hSLl := (PySem.IsL.isList (n := 0) (N1 (SL, _) (.head _)).1)
  refine f_iter_list F1 N1 hSLl fun I h4 oI F4 N4 q4 hI => ?_
  clear hSLl
  have hSI : SL ≠ I := Nat.ne_of_lt (q4 (SL, _) (.head _))
  have hnI : ∀ z ∈ news, z.1 ≠ I := fun z hz => Nat.ne_of_lt (q4 z (.tail _ hz))
  have keepI : ∀ {z : Addr × Obj}, z ∈ news → (hideAll h4 [I]).get? z.1 = some z.2 := fun {z} hz => hideAll_get [I] (N4 z (.tail _ (.tail _ hz))).1 fun q => hnI z hz (List.mem_singleton.mp q)
  have hSLb : (hideAll h4 [I]).get? SL = some (listOf (us.take k).toArray 0) := hideAll_get [I] (N4 (SL, _) (.tail _ (.head _))).1 fun q => hSI (List.mem_singleton.mp q)
  have hcP : (hideAll h4 [I]).IsCell cp (some (.int (p : Nat) tp)) := ⟨op, keepI hcp, dP⟩
  have hcQ : (hideAll h4 [I]).IsCell cq (some (.int (q : Nat) tq)) := ⟨oq, keepI hcq, dQ⟩
  unfold CompGo
  have hk3 : k < 3 := by omega
  refine comp_goP (oI := oI) (by decide) (by rfl) (N4 _ (.head _)).1 (li_self hI) k (fun D C j s' => All3 (I < D) (h4.get? C = none) (Ex6 fun (h' : Heap) (tk' : Nat) (l : List (Str × Value)) (vs : List Value) (e' : Nat) (oJ : Obj) => All5 (s' = ⟨h', gs, dr, tk', os⟩) (Fr (hideAll h4 [I]) C h' (lk l)) (News (hideAll h4 [I]) C h' [(D, listOf vs.toArray e'), (I, oJ)]) (LI oJ SL j) (vs.length = cntF way p q j))) ?h0 ?turn ?done
  case h0 =>
    intro D C h' tk' F' N' lID lDC eD eC
    exact ⟨lID, eC, h', tk', [], [], 0, oI, rfl, F', N', hI, rfl⟩
  case turn =>
    rintro E' D C K j _ hj hKK ⟨lID, eC, h', tk', l', vs, e', oJ, rfl, F', N', hJ, hvs⟩
    unfold CompTurn
    obtain ⟨⟨a, b⟩, hab⟩ : ∃ e, way[j]? = some e := ⟨_, List.getElem?_eq_getElem (by omega)⟩
    obtain ⟨T, ta, tb, hT, hTm⟩ := hus j (a, b) hab
    refine next_list F' (news := [(D, listOf vs.toArray e')]) (fun p hp => N' p (mem_swap hp)) (ne_one (Nat.ne_of_gt lID)) hJ (PySem.IsL.isList (n := 0) (F'.keep _ _ hSLb)) (by rw [List.getElem?_toArray, List.getElem?_take, if_pos hj]; exact hT) fun h5 oJ5 F5 N5 hJ5 => ⟨_, rfl, letGo_list N5 hJ5 ?_⟩
    refine f_unpack2 F5 N5 ⟨_, F5.keep _ _ (keepI hTm), rfl, 0, rfl⟩ hh fun h6 F6 N6 => ?_
    refine stK F6 N6 (by kernel_rfl) (by kernel_rfl) fun h7 tk7 F7 N7 => ?_
    refine stK F7 N7 (by kernel_rfl) (by kernel_rfl) fun h8 tk8 F8 N8 => cp_one ?_
    clear F5 N5 F' N' F6 N6 F7 N7
    iterate 7 walk1
    rotate_left
    · rename_i hc1
      rw [if_neg Bool.false_ne_true]
      dsimp only at hc1
      refine hKK _ ⟨lID, eC, h8, _, _, vs, e', oJ5, rfl, F8, fun p hp => N8 p (mem_swap hp), hJ5, ?_⟩
      rw [cntF_step hab, if_neg (by omega)]
      exact hvs
    rename_i hc1
    dsimp only at hc1
    iterate 7 walk1
    rotate_left
    · rename_i hc2
      rw [if_neg Bool.false_ne_true]
      dsimp only at hc2
      refine hKK _ ⟨lID, eC, h8, _, _, vs, e', oJ5, rfl, F8, fun p hp => N8 p (mem_swap hp), hJ5, ?_⟩
      rw [cntF_step hab, if_neg (by omega)]
      exact hvs
    rename_i hc2
    dsimp only at hc2
    iterate 1 walk1
    rw [if_pos rfl]
    iterate 1 walk1
    refine f_append F8 N8 (.tail (Nat.ne_of_lt lID) (.head fun _ hp => nomatch hp)) (fun h9 F9 N9 => ?_) (by rw [List.size_toArray, hvs]; exact Nat.le_trans (List.length_filter_le _ _) (by rw [List.length_take]; omega))
    have e9 : vs.toArray.push (Value.int (b : Nat) tb) = (vs ++ [Value.int (b : Nat) tb]).toArray := by simp
    dsimp only at N9
    rw [e9] at N9
    refine hKK _ ⟨lID, eC, h9, _, _, _, _, oJ5, rfl, F9, fun p hp => N9 p (mem_swap hp), hJ5, ?_⟩
    rw [cntF_step hab, if_pos (by omega), List.length_append, hvs]
    rfl
  case done =>
    rintro E' D C K hKK _ ⟨lID, eC, h', tk', l', vs, e', oJ, rfl, F', N', hJ, hvs⟩
    refine next_list_end hh F' (news := [(D, listOf vs.toArray e')]) (fun p hp => N' p (mem_swap hp)) (ne_one (Nat.ne_of_gt lID)) hJ (PySem.IsL.isList (n := 0) (F'.keep _ _ hSLb)) (by rw [List.getElem?_toArray, List.getElem?_take, if_neg (Nat.lt_irrefl _)]) fun h5 F5 N5 => ⟨rfl, hKK _ ?_⟩
    refine comp_end F4 N4 (fun p hp => Nat.ne_of_lt (q4 p hp)) F5 N5 (ne_one (Nat.ne_of_gt lID)) eC fun h6 F6 N6 => ?_
    clear F5 N5 F' N' F4 N4 F1 N1
    iterate 1 walk1
    refine f_lenM N6 (.head _) (by rw [hvs]; exact Nat.le_trans (List.length_filter_le _ _) (by rw [List.length_take]; omega)) ?_
    iterate 1 walk1
    refine f_modN (by decide) (by decide) ?_
    rw [hvs]
    iterate 3 walk1
    rename_i h7 tk7 F7 N7
    clear F6 N6
    have ec : cntF way p q k = crossN way k := by
      unfold cntF crossN
      rw [List.getD_eq_getElem?_getD, hpq]
      rfl
    rw [ec] at F7
    replace N7 : News hp L h7 news := fun z hz => N7 z (.tail _ (.tail _ hz))
    iterate 27 walk1
    rename_i T1 h8 F8 N8 q8 T2 h9 F9 N9 q9
    clear F7 N7 F8 N8
    refine f_neB (N9 (T1, _) (.tail _ (.head _))).1 (N9 (T2, _) (.head _)).1 (by omega) ?_
    have eb : (!(((crossN way k % 2 == 0) == true) == (((crossN way k % 2 : Nat) : Int) == ((0 : Nat) : Int)) && ((crossN way k % 2 == 0) == false) == (((crossN way k % 2 : Nat) : Int) == ((1 : Nat) : Int)))) = false := by
      rcases Nat.mod_two_eq_zero_or_one (crossN way k) with e | e <;> rw [e] <;> decide
    rw [eb]
    replace N9 : News hp L h9 news := fun z hz => N9 z (.tail _ (.tail _ hz))
    iterate 12 walk1
    · rename_i hc
      iterate 1 walk1
      refine f_iaddS (Nat.le_trans (Nat.add_le_add hz (show (Str.ofString "").length ≤ 1 by decide)) (by decide)) fun t1 k1 => ?_
      iterate 3 walk1
      rename_i h10 tk10 F10 N10
      refine hK h10 _ _ t1 F10 N10 (fun y y1 y2 => lk_miss y2 (lk_miss y1 rfl)) ?_
      rw [lk_hit, xOf, if_pos hc]
    · rename_i hc
      have ex : xOf way k = if k = 1 then Str.ofString "b" else Str.ofString "c" := by
        unfold xOf
        rw [if_neg (by rw [hc]; exact Bool.false_ne_true)]
      rcases hk with rfl | rfl
      · iterate 3 walk1
        refine f_char (c := 98) (by decide) (by with_unfolding_all rfl) ?_
        refine f_iaddS (Nat.le_trans (Nat.add_le_add hz (show (⟨#[98]⟩ : Str).length ≤ 1 by decide)) (by decide)) fun t1 k1 => ?_
        iterate 3 walk1
        rename_i h10 tk10 F10 N10
        refine hK h10 _ _ t1 F10 N10 (fun y y1 y2 => lk_miss y2 (lk_miss y1 rfl)) ?_
        rw [lk_hit, ex, if_pos rfl]
        rfl
      · iterate 3 walk1
        refine f_char (c := 99) (by decide) (by with_unfolding_all rfl) ?_
        refine f_iaddS (Nat.le_trans (Nat.add_le_add hz (show (⟨#[99]⟩ : Str).length ≤ 1 by decide)) (by decide)) fun t1 k1 => ?_
        iterate 3 walk1
        rename_i h10 tk10 F10 N10
        refine hK h10 _ _ t1 F10 N10 (fun y y1 y2 => lk_miss y2 (lk_miss y1 rfl)) ?_
        rw [lk_hit, ex, if_neg (by decide)]
        rfl
end Mine
end
section
theorem Mine.freshT42 : True := by
  w_top off
  trivial
namespace Mine
variable {w : World} {mg mb : Str → Option Value}
/-- the first loop at its head -/
structure L1 (hp : Heap) (L : Addr) (h' : Heap) (gs' : Array GenState) (l' : List (Str × Value)) (I H cp cq S Wv Dr x D₀ : Addr) (ns : List Int) (own own' : List (Addr × Obj)) (t : Nat) (refs : List Value) (ep : Nat) (op oq : Obj) : Prop where
  bare : ∀ y ∈ gs', y.bare = true
  F : Fr hp L h' (lk l')
  N : News hp L h' ((I, riObj t (15 - t)) :: (H, listOf refs.toArray ep) :: (cp, op) :: (cq, oq) :: own')
  sep : ∀ p ∈ own', p.1 ≠ I ∧ p.1 ≠ H ∧ p.1 ≠ cp ∧ p.1 ≠ cq
  sub : ∀ p ∈ own, p ∈ own'
  cP : ∃ v, op.data = .cell v
  cQ : ∃ v, oq.data = .cell v
  B : Bound l' S Wv Dr x D₀
  E : EntB own' refs (entsF ns t)
theorem law_loop1 {prog : Program} {A : Around} {R : Result → Shared → Prop} {hp h : Heap} {gs : Array GenState} {dr : Drawn} {tk : Nat} {os : OsState} {D₀ L f cp cq S Wv Dr x dx H : Addr} {cd : Value} {nm : Str} {ns : List Int} {own : List (Addr × Obj)} {op oq : Obj} {vp vq : Option Value} {l : List (Str × Value)} {hsh : Int} {th : Tok} (G : Gl w mg mb hp) (F : Fr hp L h (lk l)) (N : News hp L h ((H, listOf #[] 0) :: (cp, op) :: (cq, oq) :: own))
    (hop : op.data = .cell vp) (hoq : oq.data = .cell vq) (hB : Bound l S Wv Dr x D₀) (hS : LawSt own ns S Wv Dr x dx H hsh th) (hbare : ∀ y ∈ gs, y.bare = true) (hsep : ∀ p ∈ own, p.1 ≠ H ∧ p.1 ≠ cp ∧ p.1 ≠ cq) (hcc : H ≠ cp ∧ H ≠ cq ∧ cp ≠ cq) (hh : A.handled = none) (hroom : A.depth + 60 < recursionLimit) (hu : A.units + 100 < cLine)
    (hK : ∀ (h' : Heap) (gs' : Array GenState) (tk' : Nat) (l' : List (Str × Value)) (refs : List Value) (ep : Nat) (op oq : Obj) (own' : List (Addr × Obj)) (vp vq : Option Value), (∀ y ∈ gs', y.bare = true) → Fr hp L h' (lk l') → News hp L h' ((H, listOf refs.toArray ep) :: (cp, op) :: (cq, oq) :: own') → (∀ p ∈ own', p.1 ≠ H ∧ p.1 ≠ cp ∧ p.1 ≠ cq) → (∀ p ∈ own, p ∈ own') → op.data = .cell vp → oq.data = .cell vq → Bound l' S Wv Dr x D₀ → EntB own' refs (entsF ns 15) →
      wpAny (model prog w) (A.deeper (envG nm (lawS w).1 L f cd [("q", cq), ("p", cp)])) (execs ((lawB w).1.drop 5) (envG nm (lawS w).1 L f cd [("q", cq), ("p", cp)])) (Rt R) (Lv (model prog w) A (envG nm (lawS w).1 L f cd [("q", cq), ("p", cp)]) R) ⟨h', gs', dr, tk', os⟩) :
    wpAny (model prog w) (A.deeper (envG nm (lawS w).1 L f cd [("q", cq), ("p", cp)])) (execs ((lawB w).1.drop 4) (envG nm (lawS w).1 L f cd [("q", cq), ("p", cp)])) (Rt R) (Lv (model prog w) A (envG nm (lawS w).1 L f cd [("q", cq), ("p", cp)]) R) ⟨h, gs, dr, tk, os⟩ := by
  rw [show (lawB w).1.drop 4 = _ :: (lawB w).1.drop 5 from rfl]
  have hh' : (A.deeper (envG nm (lawS w).1 L f cd [("q", cq), ("p", cp)])).handled = none := hh
  iterate 8 walk1
  refine f_range1 F N (by decide) (fun I h1 tk1 F1 N1 q1 => ?_) fun R s hR => hR
  have nI : ∀ p ∈ (H, listOf #[] 0) :: (cp, op) :: (cq, oq) :: own, p.1 ≠ I := fun p hp => Nat.ne_of_lt (q1 p hp)
  have hHI : H ≠ I := nI (H, _) (.head _)
  have hPI : cp ≠ I := nI (cp, _) (.tail _ (.head _))
  have hQI : cq ≠ I := nI (cq, _) (.tail _ (.tail _ (.head _)))
  clear F N
  refine loop_ruleP lv_passes (fun t s' => Ex9 fun (h' : Heap) (gs' : Array GenState) (tk' : Nat) (l' : List (Str × Value)) (refs : List Value) (ep : Nat) (op oq : Obj) (own' : List (Addr × Obj)) => s' = ⟨h', gs', dr, tk', os⟩ ∧ L1 hp L h' gs' l' I H cp cq S Wv Dr x D₀ ns own own' t refs ep op oq) 15 ?h0 ?turn ?done
  case h0 =>
    exact ⟨h1, gs, _, l, [], 0, op, oq, own, rfl, hbare, F1, N1, fun p hp => ⟨nI p (.tail _ (.tail _ (.tail _ hp))), hsep p hp⟩, fun p hp => hp, ⟨_, hop⟩, ⟨_, hoq⟩, hB, rfl, fun i e h => by simp [entsF] at h⟩
  case done =>
    rintro Po Xo hPo _ ⟨h', gs', tk', l', refs, ep, op, oq, own', rfl, Z⟩
    obtain ⟨bare', F', N', sep', sub', ⟨vP, hP⟩, ⟨vQ, hQ⟩, B', E'⟩ := Z
    refine next_range_end hh' (x := 15) F' N' (ne_cons hHI (ne_cons hPI (ne_cons hQI (fun p hp => (sep' p hp).1)))) fun h2 F2 N2 => ⟨rfl, hPo _ ?_⟩
    exact hK h2 gs' tk' l' refs ep op oq own' vP vQ bare' F2 N2 (fun p hp => (sep' p hp).2) sub' hP hQ B' E'
  case turn =>
    rintro Po Xo hXo t _ ht hPo ⟨h', gs', tk', l', refs, ep, op, oq, own', rfl, Z⟩
    obtain ⟨bare', F', N', sep', sub', ⟨vP, hP⟩, ⟨vQ, hQ⟩, B', E'⟩ := Z
    have neI : ∀ p ∈ (H, listOf refs.toArray ep) :: (cp, op) :: (cq, oq) :: own', p.1 ≠ I := ne_cons (hHI) (ne_cons (hPI) (ne_cons (hQI) (fun p hp => (sep' p hp).1)))
    refine next_range F' N' neI (by omega) fun h2 t2 tk2 F2 N2 => ⟨_, rfl, letGo_name ?_⟩
    clear F' N'
    iterate 20 walk1
    rename_i h3 tk3 F3 N3 h4 tk4 F4 N4 h5 tk5 F5 N5
    clear F2 N2 F3 N3 F4 N4
    refine f_range1 F5 N5 (by decide) (fun I3 h6 tk6 F6 N6 q6 => ?_) fun R s hR => hR
    obtain ⟨way, hway⟩ : ∃ way, waysL[t]? = some way := ⟨_, List.getElem?_eq_getElem (by exact ht)⟩
    have hwm : way ∈ waysL := List.mem_of_getElem? hway
    have hwl := ways_len way hwm
    obtain ⟨acc, eW, hWm, hWK⟩ := hS.ways
    obtain ⟨v, hv, lw, us, ew, rfl, hlwm, hul, hus⟩ := hWK.2 t way hway
    have nI3 : ∀ p ∈ (I, riObj (t + 1) (15 - t - 1)) :: (H, listOf refs.toArray ep) :: (cp, op) :: (cq, oq) :: own', p.1 ≠ I3 := fun p hp => Nat.ne_of_lt (q6 p hp)
    have hII3 := nI3 (I, _) (.head _)
    have hHI3 := nI3 (H, _) (.tail _ (.head _))
    have hPI3 := nI3 (cp, _) (.tail _ (.tail _ (.head _)))
    have hQI3 := nI3 (cq, _) (.tail _ (.tail _ (.tail _ (.head _))))
    have hOI3 : ∀ p ∈ own', p.1 ≠ I3 := fun p hp => nI3 p (.tail _ (.tail _ (.tail _ (.tail _ hp))))
    clear F5 N5 q6 nI3
    refine loop_ruleP hXo (fun k s' => Ex10 fun (h' : Heap) (gs' : Array GenState) (tk' : Nat) (l' : List (Str × Value)) (op oq : Obj) (vP vQ : Option Value) (tn tp : Tok) => All10 (s' = ⟨h', gs', dr, tk', os⟩) (∀ y ∈ gs', y.bare = true) (Fr hp L h' (lk l')) (News hp L h' ((I3, riObj k (3 - k)) :: (I, riObj (t + 1) (15 - t - 1)) :: (H, listOf refs.toArray ep) :: (cp, op) :: (cq, oq) :: own')) (op.data = .cell vP) (oq.data = .cell vQ) (Bound l' S Wv Dr x D₀) (lk l' (Str.ofString "t") = some (Value.int (t : Nat) t2)) (lk l' (Str.ofString "name") = some (Value.str (nameP way k) tn)) (lk l' (Str.ofString "product") = some (Value.int (prodP (wAt ns 15) way k) tp))) 3 ?g0 ?gturn ?gdone
    case g0 =>
      exact ⟨h6, gs', _, _, op, oq, _, _, _, _, rfl, bare', F6, N6, hP, hQ, ⟨lk_miss (by kernel_rfl) (lk_miss (by kernel_rfl) (lk_miss (by kernel_rfl) B'.table)), lk_miss (by kernel_rfl) (lk_miss (by kernel_rfl) (lk_miss (by kernel_rfl) B'.dress)), lk_miss (by kernel_rfl) (lk_miss (by kernel_rfl) (lk_miss (by kernel_rfl) B'.ways)), lk_miss (by kernel_rfl) (lk_miss (by kernel_rfl) (lk_miss (by kernel_rfl) B'.worths)), lk_miss (by kernel_rfl) (lk_miss (by kernel_rfl) (lk_miss (by kernel_rfl) B'.script))⟩, lk_miss (by kernel_rfl) (lk_miss (by kernel_rfl) lk_hit), lk_miss (by kernel_rfl) lk_hit, lk_hit⟩
    case gdone =>
      rintro Pd Xd hPd _ ⟨h', gs'', tk', l', op, oq, vP, vQ, tn, tp, rfl, bare2, F', N', hP', hQ', B2, lt, ln, lpr⟩
      clear F6 N6
      refine next_range_end hh' (x := 3) F' N' (ne_cons hII3 (ne_cons hHI3 (ne_cons hPI3 (ne_cons hQI3 (hOI3))))) fun h7 F7 N7 => ⟨rfl, hPd _ ?_⟩
      clear F' N'
      have up : ∀ {z : Addr × Obj}, z ∈ own → z ∈ (I, riObj (t + 1) (15 - t - 1)) :: (H, listOf refs.toArray ep) :: (cp, op) :: (cq, oq) :: own' := fun hz => .tail _ (.tail _ (.tail _ (.tail _ (sub' _ hz))))
      have lT := B2.table
      iterate 5 walk1
      refine method_inst (f := 242) F7 G.X ⟨(N7 _ (up hS.x)).1, rfl, rfl, (N7 _ (up hS.dx)).1⟩ (by kernel_rfl) (by kernel_rfl) (by kernel_rfl) (by rfl) ?_
      dsimp only
      refine callWith_K G.X (by kernel_rfl) ?_ (by kernel_rfl) (by kernel_rfl)
      iterate 1 walk1
      have en : nameP way 3 = nameOf way := name_eq hwm
      refine wpAny_mono (Q := fun v s' => ∃ u tk', v = Value.str (entF ns t).1 u ∧ s' = ⟨h7, gs'', dr, tk', os⟩) ?xval (fun v s' hv => ?_) (fun _ _ x => x)
      case xval =>
        iterate 5 walk1
        refine f_modN (by decide) (by decide) ?_
        iterate 3 walk1
        have e0 : (entF ns t).1 = if t % 3 = 1 then Txt.upper (nameP way 3) else nameP way 3 := by
          unfold entF
          rw [List.getD_eq_getElem?_getD, hway, en]
          rfl
        by_cases h3 : t % 3 = 1
        · rw [if_pos (by rw [h3]; rfl)]
          rw [if_pos h3] at e0
          iterate 4 walk1
          refine PyProof.Rows.SCL.upper (Nat.le_trans (nameP_len way 3 (by decide)) (by decide)) fun _ => ?_
          exact ⟨_, _, by rw [e0], rfl⟩
        · rw [if_neg (by intro e; have e' : ((t % 3 : Nat) : Int) = ((1 : Nat) : Int) := by simpa using e
                         exact h3 (by omega))]
          rw [if_neg h3] at e0
          iterate 1 walk1
          exact ⟨_, _, by rw [e0], rfl⟩
      obtain ⟨u8, tk8, rfl, rfl⟩ := hv
      have hb := sm_prodP ns way 3
      iterate 7 walk1
      refine f_strI (sm_log hb (by decide)) ?_
      iterate 1 walk1
      refine ⟨G.X.keeps F7.keep, wpAny_call ?_⟩
      have zH := N7 (H, listOf refs.toArray ep) (.tail _ (.head _))
      have hKH : (KF w).lookup H = none := by
        cases e : (KF w).lookup H with
        | none => rfl
        | some o => have := G.X H o e; rw [zH.2.2] at this; cases this
      obtain ⟨low, pl, len3⟩ := ent_facts ns t
      have hvl := (num_back (sm_num hb (by decide))).2
      have zT : (Str.length (numT (prodP (wAt ns 15) way 3))) = (numT (prodP (wAt ns 15) way 3)).cps.size := rfl
      have zN : (Str.length (entF ns t).1) = (entF ns t).1.cps.size := rfl
      have hrl : refs.length = t := by rw [E'.1]; unfold entsF; rw [List.length_map, List.length_range]
      show codeAny (model prog w) _ (.call (.ref 242) ⟨[.ref x, .str (entF ns t).1 _, .str (numT (prodP (wAt ns 15) way 3)) _], []⟩) _ _
      refine add_spec (its := refs.toArray) (ep := ep) (G.keeps F7.keep) hh' (room1 hroom) pl (by omega) (num_plain _) (by omega) (N7 _ (up hS.x)).1 (N7 _ (up hS.dx)).1 zH.1 hKH (by rw [List.size_toArray]; omega) fun h9 tk9 T u9 k9 eT eT' eH => ?_
      have F9 := fr_ext F7 (as := [H]) (fun a ha => by rw [List.mem_singleton.mp ha]; exact zH.2) k9
      have ep9 : refs.toArray.push (Value.ref T) = (refs ++ [Value.ref T]).toArray := by simp
      rw [ep9] at eH
      have zL : ∃ o, h7.get? L = some o := let ⟨o, _, _, e, _⟩ := F7.ns; ⟨o, e⟩
      obtain ⟨oL, eL⟩ := zL
      have neT : ∀ {a : Addr} {o : Obj}, h7.get? a = some o → T ≠ a := fun e q => by rw [← q, eT] at e; cases e
      have e2 : numT (prodP (wAt ns 15) way 3) = (entF ns t).2 := by
        unfold entF
        rw [List.getD_eq_getElem?_getD, hway]
        rfl
      rw [e2] at eT'
      have neH : ∀ p ∈ (I, riObj (t + 1) (15 - t - 1)) :: (cp, op) :: (cq, oq) :: own', p.1 ≠ H := ne_cons (hHI.symm) (ne_cons (hcc.1.symm) (ne_cons (hcc.2.1.symm) (fun p hp => (sep' p hp).2.1)))
      have old9 : ∀ p ∈ (I, riObj (t + 1) (15 - t - 1)) :: (cp, op) :: (cq, oq) :: own', h9.get? p.1 = some p.2 ∧ p.1 ≠ L ∧ hp.get? p.1 = none := fun p hp => by
        have hm : p ∈ (I, riObj (t + 1) (15 - t - 1)) :: (H, listOf refs.toArray ep) :: (cp, op) :: (cq, oq) :: own' := by
          rcases List.mem_cons.mp hp with rfl | hp
          · exact .head _
          · exact .tail _ (.tail _ hp)
        exact ⟨k9 _ _ (fun q => neH p hp (List.mem_singleton.mp q)) (N7 p hm).1, (N7 p hm).2⟩
      have N9 : News hp L h9 ((I, riObj (t + 1) (15 - t - 1)) :: (H, listOf (refs ++ [Value.ref T]).toArray (ep + 1)) :: (cp, op) :: (cq, oq) :: (T, tupOf #[.str (entF ns t).1 u8, .str (entF ns t).2 u9]) :: own') := by
        refine news_cons (old9 _ (.head _)) (news_cons ⟨eH, zH.2⟩ (news_cons (old9 _ (.tail _ (.head _))) (news_cons (old9 _ (.tail _ (.tail _ (.head _)))) (news_cons ⟨eT', fun q => neT eL q, ?_⟩ fun z hz => old9 z (.tail _ (.tail _ (.tail _ hz)))))))
        cases e : hp.get? T with
        | none => rfl
        | some o => have := F7.keep _ _ e; rw [eT] at this; cases this
      have sep9 : ∀ p ∈ (T, tupOf #[.str (entF ns t).1 u8, .str (entF ns t).2 u9]) :: own', p.1 ≠ I ∧ p.1 ≠ H ∧ p.1 ≠ cp ∧ p.1 ≠ cq := fun p hp => by
        rcases List.mem_cons.mp hp with rfl | hp
        · exact ⟨neT (N7 (I, _) (.head _)).1, neT zH.1, neT (N7 (cp, op) (.tail _ (.tail _ (.head _)))).1, neT (N7 (cq, oq) (.tail _ (.tail _ (.tail _ (.head _))))).1⟩
        · exact sep' p hp
      have E9 := EntB.push (e := entF ns t) (T := T) (t1 := u8) (t2 := u9) E'
      rw [← entsF_succ] at E9
      refine sq_next (wpAny_execs_nil (hPo _ _ (lp_next ⟨h9, gs'', tk9, l', refs ++ [Value.ref T], ep + 1, op, oq, _, rfl, bare2, F9, N9, sep9, fun p hp => .tail _ (sub' p hp), ⟨_, hP'⟩, ⟨_, hQ'⟩, B2, E9⟩)))
    case gturn =>
      clear F6 N6
      rintro Pi Xi hXi k _ hk hPi ⟨h', gs'', tk', l', op, oq, vP, vQ, tn, tp, rfl, bare2, F', N', hP', hQ', B2, lt, ln, lpr⟩
      refine next_range F' N' (ne_cons hII3 (ne_cons hHI3 (ne_cons hPI3 (ne_cons hQI3 (hOI3))))) (by omega) fun h7 t7 tk7 F7 N7 => ⟨_, rfl, letGo_name ?_⟩
      have lWays := B2.ways
      iterate 8 walk1
      rename_i h8 tk8 F8 N8
      clear F7 N7 F' N'
      have up : ∀ {z : Addr × Obj}, z ∈ own → z ∈ (I3, riObj (k + 1) (3 - k - 1)) :: (I, riObj (t + 1) (15 - t - 1)) :: (H, listOf refs.toArray ep) :: (cp, op) :: (cq, oq) :: own' := fun hz => .tail _ (.tail _ (.tail _ (.tail _ (.tail _ (sub' _ hz)))))
      obtain ⟨⟨p, q⟩, hpq⟩ : ∃ r, way[k]? = some r := ⟨_, List.getElem?_eq_getElem (by omega)⟩
      obtain ⟨T, ta, tb, hT, hTm⟩ := hus k (p, q) hpq
      have hTT : IsTup h8 T #[Value.int (p : Nat) ta, Value.int (q : Nat) tb] := ⟨_, (N8 _ (up hTm)).1, rfl, 0, rfl⟩
      refine at_mem N8 (up hWm) (by omega) hv ?_
      iterate 1 walk1
      refine at_mem N8 (up hlwm) (by omega) hT ?_
      refine f_unpack2 F8 N8 hTT hh' fun h9 F9 N9 => ?_
      refine' st_cell F9 N9 (by kernel_rfl) (by kernel_rfl) (by rfl) ?U hP' ?_
      case U => exact .tail hPI3.symm (.tail hPI.symm (.tail hcc.1 (.head fun z hz => by
        rcases List.mem_cons.mp hz with rfl | hz
        · exact hcc.2.2.symm
        · exact (sep' z hz).2.2.1)))
      intro h10 op2 F10 N10 dP
      refine' st_cell F10 N10 (by kernel_rfl) (by kernel_rfl) (by rfl) ?U hQ' ?_
      case U => exact .tail hQI3.symm (.tail hQI.symm (.tail hcc.2.1 (.tail hcc.2.2 (.head fun z hz => (sep' z hz).2.2.2))))
      intro h11 oq2 F11 N11 dQ
      clear F8 N8 F9 N9 F10 N10 hTT up
      obtain ⟨rows, eS, hSm, hM⟩ := hS.mat
      obtain ⟨hp1, hp2⟩ := ways_pts way hwm (p, q) (List.mem_of_getElem? hpq)
      dsimp only at hp1 hp2
      obtain ⟨r, cs, er, hr, hrm, hcl, hcs⟩ := hM.2.2 p (by omega)
      obtain ⟨tw, htw⟩ := hcs q hp2
      have lWorths := B2.worths
      have up : ∀ {z : Addr × Obj}, z ∈ own → z ∈ (I3, riObj (k + 1) (3 - k - 1)) :: (I, riObj (t + 1) (15 - t - 1)) :: (H, listOf refs.toArray ep) :: (cp, op2) :: (cq, oq2) :: own' := fun hz => .tail _ (.tail _ (.tail _ (.tail _ (.tail _ (sub' _ hz)))))
      iterate 8 walk1
      refine at_mem N11 (up hSm) (by omega) hr ?_
      iterate 1 walk1
      refine at_mem N11 (up hrm) (by omega) htw ?_
      refine f_imul (sm_prodP ns way k) (sm_w ns 15 p q) (Nat.le_trans (show 110 * k + 1 ≤ 331 by omega) (by decide)) (by decide) ?_
      have eprod : prodP (wAt ns 15) way k * wAt ns 15 p q = prodP (wAt ns 15) way (k + 1) := by
        show _ = prodP (wAt ns 15) way k * wAt ns 15 (way.getD k (0, 0)).1 (way.getD k (0, 0)).2
        rw [List.getD_eq_getElem?_getD, hpq]
        rfl
      rw [eprod]
      iterate 3 walk1
      rename_i h12 tk12 F12 N12
      clear F11 N11
      have lk0 : lk l' (Str.ofString "k") = lk l' (Str.ofString "k") := rfl
      by_cases hk0 : k = 0
      · subst hk0
        iterate 10 walk1
        refine hPi _ _ (lp_next ⟨h12, gs'', _, _, op2, oq2, _, _, tn, _, rfl, bare2, F12, N12, dP, dQ, ⟨lk_miss (by kernel_rfl) (lk_miss (by kernel_rfl) B2.table), lk_miss (by kernel_rfl) (lk_miss (by kernel_rfl) B2.dress), lk_miss (by kernel_rfl) (lk_miss (by kernel_rfl) B2.ways), lk_miss (by kernel_rfl) (lk_miss (by kernel_rfl) B2.worths), lk_miss (by kernel_rfl) (lk_miss (by kernel_rfl) B2.script)⟩, lk_miss (by kernel_rfl) (lk_miss (by kernel_rfl) lt), lk_miss (by kernel_rfl) (lk_miss (by kernel_rfl) ln), lk_hit⟩)
      · have hk1 : 1 ≤ k := Nat.one_le_iff_ne_zero.mpr hk0
        have lDress := B2.dress
        obtain ⟨vd, eD, hDm, hDs⟩ := hS.dress
        have up12 : ∀ {z : Addr × Obj}, z ∈ own → z ∈ (I3, riObj (k + 1) (3 - k - 1)) :: (I, riObj (t + 1) (15 - t - 1)) :: (H, listOf refs.toArray ep) :: (cp, op2) :: (cq, oq2) :: own' := up
        iterate 20 walk1
        refine at_mem N12 (up12 hWm) (by omega) hv ?_
        iterate 10 walk1
        refine line_spec (way := way) (k := k) (dress := dressF ns) (vs := vd) (G.keeps F12.keep) (WayK.at (own := own) ⟨lw, us, ew, rfl, hlwm, hul, hus⟩ fun z hz => (N12 z (up12 hz)).1) (by omega) (Nat.le_of_eq hwl) (PySem.IsL.isList (n := eD) (N12 _ (up12 hDm)).1) hDs (dressF_len ns) (fun pq h => by have := ways_pts way hwm pq h; omega) (dressF_short ns) (by decide) (by decide) hh' (room1 hroom) fun h13 tk13 u13 k13 => ?_
        have F13 := fr_ext (as := []) F12 (fun _ h => nomatch h) k13
        have N13 := news_keep N12 fun b o e => k13 b o List.not_mem_nil e
        clear F12 N12
        have pl := line_plain hwm ns (k := k) (by omega)
        iterate 1 walk1
        refine cw_ G F13 ?_
        refine check_spec (G.keeps F13.keep) pl.a pl.z pl.a' pl.z' hh' (room1 hroom) fun h14 gs14 tk14 k14 b14 => ?_
        rw [pl.c]
        have F14 := fr_ext (as := []) F13 (fun _ h => nomatch h) k14
        have N14 := news_keep N13 fun b o e => k14 b o List.not_mem_nil e
        have bare14 := b14 bare2
        clear F13 N13
        iterate 2 walk1
        rename_i h15 tk15 F15 N15
        clear F14 N14
        refine law_cross (way := way) (k := k) (p := p) (q := q) (t := t) (eW := eW) (ew := ew) (acc := acc) (us := us) (op := op2) (oq := oq2) (nmv := nameP way k) (tn := tn) G F15 N15 (.tail _ (.tail _ (.tail _ (.head _)))) (.tail _ (.tail _ (.tail _ (.tail _ (.head _))))) dP dQ (up12 hWm) hv (up12 hlwm) hul (fun i pq e => let ⟨t, t1, t2, e1, e2⟩ := hus i pq e; ⟨t, t1, t2, e1, up12 e2⟩) hwl hpq (by omega) ht (lk_miss (by kernel_rfl) (lk_miss (by kernel_rfl) (lk_miss (by kernel_rfl) lWays))) (lk_miss (by kernel_rfl) (lk_miss (by kernel_rfl) (lk_miss (by kernel_rfl) lt))) (lk_miss (by kernel_rfl) (lk_miss (by kernel_rfl) lk_hit)) (lk_miss (by kernel_rfl) (lk_miss (by kernel_rfl) (lk_miss (by kernel_rfl) ln))) lk_hit (nameP_len way k (by omega)) hh' (by show A.units + 3 + 50 < cLine; omega) fun h16 tk16 l16 tn16 F16 N16 same ln16 => ?_
        clear F15 N15
        have en16 : nameP way k ++ xOf way k = nameP way (k + 1) := by
          obtain ⟨k', rfl⟩ : ∃ k', k = k' + 1 := ⟨k - 1, by omega⟩
          rfl
        rw [en16] at ln16
        iterate 2 walk1
        have s16 : ∀ {y : Str} {v : Value}, (y == Str.ofString "crossed") = false → (y == Str.ofString "name") = false → (y == Str.ofString "taken") = false → (y == Str.ofString "product") = false → (y == Str.ofString "k") = false → lk l' y = some v → lk l16 y = some v := fun a b c d e h => (same _ a b).trans (lk_miss c (lk_miss d (lk_miss e h)))
        have b16 : Bound l16 S Wv Dr x D₀ := ⟨s16 (by kernel_rfl) (by kernel_rfl) (by kernel_rfl) (by kernel_rfl) (by kernel_rfl) B2.table, s16 (by kernel_rfl) (by kernel_rfl) (by kernel_rfl) (by kernel_rfl) (by kernel_rfl) B2.dress, s16 (by kernel_rfl) (by kernel_rfl) (by kernel_rfl) (by kernel_rfl) (by kernel_rfl) B2.ways, s16 (by kernel_rfl) (by kernel_rfl) (by kernel_rfl) (by kernel_rfl) (by kernel_rfl) B2.worths, s16 (by kernel_rfl) (by kernel_rfl) (by kernel_rfl) (by kernel_rfl) (by kernel_rfl) B2.script⟩
        have t16 := s16 (by kernel_rfl) (by kernel_rfl) (by kernel_rfl) (by kernel_rfl) (by kernel_rfl) lt
        have p16 := (same (Str.ofString "product") (by kernel_rfl) (by kernel_rfl)).trans (lk_miss (by kernel_rfl) lk_hit)
        exact hPi _ _ (lp_next ⟨h16, gs14, _, l16, op2, oq2, _, _, tn16, _, rfl, bare14, F16, N16, dP, dQ, b16, t16, ln16, p16⟩)
end Mine
end
section
local macro_rules | `(tactic| walk_at "zz") => `(tactic| fail)
theorem Mine.freshT44 : True := by
  w_top off
  trivial
namespace Mine
variable {w : World} {mg mb : Str → Option Value}
def nmQ (j : Nat) : Str := match j with
  | 0 => Str.ofString "a"
  | 1 => Str.ofString "AB"
  | 2 => Str.ofString "Ac"
  | _ => Str.ofString "aBC"
theorem nmQ_facts : ∀ j, j < 4 → Txt.lower (nmQ j) = nmL j ∧ (nmQ j).length ≤ 3 ∧ (∀ c ∈ (Txt.lower (nmQ j)).cps.toList, 32 ≤ c ∧ c < 127) := by decide +kernel
def someW (W : Nat → Nat → Int) (j : Nat) : List Int := (waysL.filter fun way => kindN way == j).map (prodW W)
def toldJ (W : Nat → Nat → Int) : Nat → Int
  | 0 => 0
  | j + 1 => toldJ W j + (if (nmQ j).length % 2 = 1 then (someW W j).sum else -(someW W j).sum)
theorem toldJ_four (W : Nat → Nat → Int) : toldJ W 4 = toldW W := by
  unfold toldJ toldJ toldJ toldJ toldJ
  rw [if_pos (by decide), if_neg (by decide), if_neg (by decide), if_pos (by decide)]
  rfl
theorem ways_range : waysL = (List.range 15).map fun t => waysL.getD t [] := by decide
theorem pick_ents (ns : List Int) (j : Nat) (hj : j < 4) : pickF (entsF ns 15) (nmL j) = (someW (wAt ns 15) j).map numT := by
  unfold pickF entsF someW
  have e : (waysL.filter fun way => kindN way == j) = ((List.range 15).filter fun t => kindN (waysL.getD t []) == j).map fun t => waysL.getD t [] := by
    conv => lhs; rw [ways_range]
    rw [List.filter_map]
    rfl
  rw [e, List.filter_map, List.map_map, List.map_map, List.map_map]
  have e2 : ((fun e => Txt.lower e.1 == nmL j) ∘ entF ns) = fun t => kindN (waysL.getD t []) == j := by
    funext t
    show (Txt.lower (entF ns t).1 == nmL j) = _
    rw [(ent_facts ns t).1, nm_inj _ (kindN_lt _) j hj]
  rw [e2]
  rfl
theorem someW_num (ns : List Int) (j : Nat) : ∀ a ∈ someW (wAt ns 15) j, a.natAbs < 10 ^ 300 := by
  intro a ha
  obtain ⟨way, _, rfl⟩ := List.mem_map.mp ha
  exact sm_num (sm_prodP ns way 3) (by decide)
theorem someW_len (W : Nat → Nat → Int) (j : Nat) : (someW W j).length ≤ 15 := by
  unfold someW
  rw [List.length_map]
  exact List.length_filter_le _ _
theorem ints_snoc : ∀ {vs : List Value} {xs : List Int} {a : Int} {t : Tok}, IntsAre vs xs → IntsAre (vs ++ [Value.int a t]) (xs ++ [a])
  | _, _, a, t, .nil => .cons a t .nil
  | _, _, a, t, .cons y u r => .cons y u (ints_snoc r)
theorem law_told {prog : Program} {A : Around} {R : Result → Shared → Prop} {hp h : Heap} {gs : Array GenState} {dr : Drawn} {tk : Nat} {os : OsState} {D₀ L f cp cq S Wv Dr x dx H : Addr} {cd : Value} {nm : Str} {ns : List Int} {own : List (Addr × Obj)} {l : List (Str × Value)} {hsh : Int} {th : Tok} {refs : List Value} {ep : Nat} (G : Gl w mg mb hp) (F : Fr hp L h (lk l)) (N : News hp L h own)
    (hx : (x, instObj 245 dx) ∈ own) (hdx : (dx, hdD hsh th H) ∈ own) (hH : (H, listOf refs.toArray ep) ∈ own) (hE : EntB own refs (entsF ns 15)) (hB : Bound l S Wv Dr x D₀) (hh : A.handled = none) (hroom : A.depth + 60 < recursionLimit) (hu : A.units + 100 < cLine)
    (hK : ∀ (h' : Heap) (tk' : Nat) (l' : List (Str × Value)) (t1 t2 : Tok), Fr hp L h' (lk l') → News hp L h' own → Bound l' S Wv Dr x D₀ → lk l' (Str.ofString "told") = some (.int (toldW (wAt ns 15)) t1) → lk l' (Str.ofString "far") = some (.int (10 ^ 40) t2) →
      wpAny (model prog w) (A.deeper (envG nm (lawS w).1 L f cd [("q", cq), ("p", cp)])) (execs ((lawB w).1.drop 8) (envG nm (lawS w).1 L f cd [("q", cq), ("p", cp)])) (Rt R) (Lv (model prog w) A (envG nm (lawS w).1 L f cd [("q", cq), ("p", cp)]) R) ⟨h', gs, dr, tk', os⟩) :
    wpAny (model prog w) (A.deeper (envG nm (lawS w).1 L f cd [("q", cq), ("p", cp)])) (execs ((lawB w).1.drop 5) (envG nm (lawS w).1 L f cd [("q", cq), ("p", cp)])) (Rt R) (Lv (model prog w) A (envG nm (lawS w).1 L f cd [("q", cq), ("p", cp)]) R) ⟨h, gs, dr, tk, os⟩ := by
  rw [show (lawB w).1.drop 5 = _ :: _ :: _ :: (lawB w).1.drop 8 from rfl]
  have hh' : (A.deeper (envG nm (lawS w).1 L f cd [("q", cq), ("p", cp)])).handled = none := hh
  have X₀ := G.X
  have hrl : refs.length = 15 := by rw [hE.1]; rfl
  iterate 14 walk1
  refine f_for (by intro _; rfl) ?_
  iterate 11 walk1
  rename_i h1 tk1 F1 N1 h2 tk2 F2 N2 T h3 F3 N3 q3
  clear F1 N1 F2 N2
  dsimp only at F3 N3 ⊢
  have hOt : ∃ O, O = tupOf #[Value.str (Str.ofString "a") tk2, Value.str (Str.ofString "AB") (tk2 + 1), Value.str (Str.ofString "Ac") (tk2 + 1 + 1), Value.str (Str.ofString "aBC") (tk2 + 1 + 1 + 1)] := ⟨_, rfl⟩
  obtain ⟨O, hO⟩ := hOt
  rw [← hO] at N3
  have hTup : ∀ {h : Heap}, h.get? T = some O → h.IsTuple T #[Value.str (Str.ofString "a") tk2, Value.str (Str.ofString "AB") (tk2 + 1), Value.str (Str.ofString "Ac") (tk2 + 1 + 1), Value.str (Str.ofString "aBC") (tk2 + 1 + 1 + 1)] := fun e => ⟨O, e, by rw [hO], 0, by rw [hO]⟩
  refine f_iter_tup F3 N3 (hTup (N3 _ (.head _)).1) fun I h4 oI F4 N4 q4 hI => ?_
  have hTI : T ≠ I := Nat.ne_of_lt (q4 (T, _) (.head _))
  have hOT : ∀ p ∈ own, p.1 ≠ T := fun p hp => Nat.ne_of_lt (q3 p hp)
  have hOI : ∀ p ∈ own, p.1 ≠ I := fun p hp => Nat.ne_of_lt (q4 p (.tail _ hp))
  have hit : ∀ j, j < 4 → ∃ t, (#[Value.str (Str.ofString "a") tk2, Value.str (Str.ofString "AB") (tk2 + 1), Value.str (Str.ofString "Ac") (tk2 + 1 + 1), Value.str (Str.ofString "aBC") (tk2 + 1 + 1 + 1)] : Array Value)[j]? = some (.str (nmQ j) t) := fun j hj => match j, hj with
    | 0, _ => ⟨_, rfl⟩
    | 1, _ => ⟨_, rfl⟩
    | 2, _ => ⟨_, rfl⟩
    | 3, _ => ⟨_, rfl⟩
    | n + 4, hj => absurd hj (by omega)
  clear F3 N3
  refine loop_ruleP lv_passes (fun j s' => Ex6 fun (h' : Heap) (tk' : Nat) (l' : List (Str × Value)) (oJ : Obj) (t1 t2 : Tok) => All7 (s' = ⟨h', gs, dr, tk', os⟩) (Fr hp L h' (lk l')) (News hp L h' ((I, oJ) :: (T, O) :: own)) (TIt oJ T j) (Bound l' S Wv Dr x D₀) (lk l' (Str.ofString "told") = some (.int (toldJ (wAt ns 15) j) t1)) (lk l' (Str.ofString "far") = some (.int (10 ^ 40) t2))) 4 ?h0 ?turn ?done
  case h0 =>
    refine ⟨h4, _, _, oI, _, _, rfl, F4, N4, hI, ⟨lk_miss (by kernel_rfl) (lk_miss (by kernel_rfl) hB.table), lk_miss (by kernel_rfl) (lk_miss (by kernel_rfl) hB.dress), lk_miss (by kernel_rfl) (lk_miss (by kernel_rfl) hB.ways), lk_miss (by kernel_rfl) (lk_miss (by kernel_rfl) hB.worths), lk_miss (by kernel_rfl) (lk_miss (by kernel_rfl) hB.script)⟩, lk_miss (by kernel_rfl) lk_hit, lk_hit⟩
  case done =>
    rintro Po Xo hPo _ ⟨h', tk', l', oJ, t1, t2, rfl, F', N', hJ, B', lt, lf⟩
    refine next_tup_end hh' F' N' (ne_cons hTI (hOI)) hJ (hTup (N' _ (.tail _ (.head _))).1) rfl fun h5 F5 N5 => ⟨rfl, hPo _ ?_⟩
    rw [toldJ_four] at lt
    exact hK h5 tk' l' t1 t2 F5 (fun p hp => N5 p (.tail _ hp)) B' lt lf
  case turn =>
    rintro Po Xo hXo j _ hj hPo ⟨h', tk', l', oJ, t1, t2, rfl, F', N', hJ, B', lt, lf⟩
    obtain ⟨tj, hxj⟩ := hit j hj
    refine next_tup F' N' (ne_cons hTI (hOI)) hJ (hTup (N' _ (.tail _ (.head _))).1) hxj fun h5 oJ5 F5 N5 hJ5 => ⟨_, rfl, letGo_name ?_⟩
    clear F' N' F4 N4
    obtain ⟨qn, qz, qc⟩ := nmQ_facts j hj
    have lT := B'.table
    iterate 8 walk1
    rename_i h6 tk6 F6 N6
    clear F5 N5
    refine f_comp [] (by intro _; rfl) (by kernel_rfl) (by rfl) (by decide) ?_
    iterate 2 walk1
    have up : ∀ {z : Addr × Obj}, z ∈ own → z ∈ (I, oJ5) :: (T, O) :: own := fun hz => .tail _ (.tail _ hz)
    refine method_inst (f := 184) F6 X₀ ⟨(N6 _ (up hx)).1, rfl, rfl, (N6 _ (up hdx)).1⟩ (by kernel_rfl) (by kernel_rfl) (by kernel_rfl) (by rfl) ?_
    dsimp only
    refine callWith_K X₀ (by kernel_rfl) ?_ (by kernel_rfl) (by kernel_rfl)
    iterate 3 walk1
    refine ⟨G.X.keeps F6.keep, wpAny_call ?_⟩
    show codeAny (model prog w) _ (.call (.ref 184) ⟨[.ref x, .str (nmQ j) _], []⟩) _ _
    have hl3 : ∀ e ∈ entsF ns 15, e.1.length < 100 := fun e he => by
      obtain ⟨t, _, rfl⟩ := List.mem_map.mp he
      have := (ent_facts ns t).2.2
      omega
    refine getall_spec (G.keeps F6.keep) hh' (room1 hroom) qc (by omega) (N6 _ (up hx)).1 (N6 _ (up hdx)).1 (N6 _ (up hH)).1 (by omega) hE (fun z hz => (N6 z (up hz)).1) hl3 fun h7 tk7 S' vs e' k7 Y7 M7 => ?_
    rw [qn, pick_ents ns j hj] at M7
    obtain ⟨N7, s7⟩ := news_fresh F6 N6 k7 Y7
    have F7 := fr_ext (as := []) F6 (fun _ h => nomatch h) k7
    clear F6 N6
    have hS' := (N7 (S', listOf vs.toArray e') (List.mem_append_right _ (.head _))).1
    dsimp only
    refine f_iter_list F7 N7 (PySem.IsL.isList (n := e') hS') fun I2 h8 oI2 F8 N8 q8 hI2 => ?_
    have GI : Gl w mg mb (hideAll h8 [I2]) := Gl.hide1 G F8.keep (N8 _ (.head _)).2.2 (N8 _ (.head _)).1 (fun _ _ e => by rw [hI2.d] at e; cases e) (fun e => by rw [hI2.d] at e; cases e)
    have hS2 : S' ≠ I2 := Nat.ne_of_lt (q8 (S', listOf vs.toArray e') (List.mem_append_right _ (.head _)))
    have hSb : (hideAll h8 [I2]).get? S' = some (listOf vs.toArray e') := hideAll_get [I2] (N8 (S', listOf vs.toArray e') (.tail _ (List.mem_append_right _ (.head _)))).1 fun q => hS2 (List.mem_singleton.mp q)
    have hvl : vs.length = (someW (wAt ns 15) j).length := by rw [M7.length, List.length_map]
    have hsl := someW_len (wAt ns 15) j
    unfold CompGo
    refine comp_goP (oI := oI2) (by decide) (by rfl) (N8 _ (.head _)).1 (li_self hI2) (someW (wAt ns 15) j).length (fun D C i s' => All3 (I2 < D) (h8.get? C = none) (Ex6 fun (h' : Heap) (tk' : Nat) (l : List (Str × Value)) (acc : List Value) (e2 : Nat) (oK : Obj) => All5 (s' = ⟨h', gs, dr, tk', os⟩) (Fr (hideAll h8 [I2]) C h' (lk l)) (News (hideAll h8 [I2]) C h' [(D, listOf acc.toArray e2), (I2, oK)]) (LI oK S' i) (IntsAre acc ((someW (wAt ns 15) j).take i)))) ?k0 ?kturn ?kdone
    case k0 =>
      intro D C h' tk' F' N' lID lDC eD eC
      exact ⟨lID, eC, h', tk', [], [], 0, oI2, rfl, F', N', hI2, .nil⟩
    case kturn =>
      rintro E' D C K i _ hi hKK ⟨lID, eC, h', tk', l2, acc, e2, oK, rfl, F', N', hK2, hacc⟩
      unfold CompTurn
      obtain ⟨ts, hts⟩ := strs_get M7 (i := i) (by rw [List.length_map]; exact hi)
      obtain ⟨a, ha⟩ : ∃ a, (someW (wAt ns 15) j)[i]? = some a := ⟨_, List.getElem?_eq_getElem hi⟩
      rw [List.getD_eq_getElem?_getD, List.getElem?_map, ha] at hts
      refine next_list F' (news := [(D, listOf acc.toArray e2)]) (fun p hp => N' p (mem_swap hp)) (ne_one (Nat.ne_of_gt lID)) hK2 (PySem.IsL.isList (n := e') (F'.keep _ _ hSb)) (by rw [List.getElem?_toArray]; exact hts) fun h9 oK9 F9 N9 hK9 => ⟨_, rfl, letGo_name ?_⟩
      refine asK F9 N9 (by kernel_rfl) (by kernel_rfl) fun h10 tk10 F10 N10 => cp_nil ?_
      clear F9 N9 F' N'
      dsimp only [Option.map_some, Option.getD_some] at F10 ⊢
      iterate 6 walk1
      refine f_intT (someW_num ns j a (List.mem_of_getElem? ha)) ?_
      have hal : acc.length ≤ 15 := by rw [hacc.length, List.length_take]; omega
      refine f_append F10 N10 (.tail (Nat.ne_of_lt lID) (.head fun _ hp => nomatch hp)) (fun h11 F11 N11 => ?_) (by rw [List.size_toArray]; exact Nat.le_trans hal (by decide))
      have e11 : acc.toArray.push (Value.int a tk10) = (acc ++ [Value.int a tk10]).toArray := by simp
      rw [e11] at N11
      refine hKK _ ⟨lID, eC, h11, _, _, _, _, oK9, rfl, F11, fun p hp => N11 p (mem_swap hp), hK9, ?_⟩
      rw [List.take_add_one, ha]
      exact ints_snoc hacc
    case kdone =>
      rintro E' D C K hKK _ ⟨lID, eC, h', tk', l2, acc, e2, oK, rfl, F', N', hK2, hacc⟩
      refine next_list_end hh' F' (news := [(D, listOf acc.toArray e2)]) (fun p hp => N' p (mem_swap hp)) (ne_one (Nat.ne_of_gt lID)) hK2 (PySem.IsL.isList (n := e') (F'.keep _ _ hSb)) (by rw [List.getElem?_toArray, ← hvl, List.getElem?_eq_none_iff]; exact Nat.le_refl _) fun h9 F9 N9 => ⟨rfl, hKK _ ?_⟩
      refine comp_end F8 N8 (fun p hp => Nat.ne_of_lt (q8 p hp)) F9 N9 (ne_one (Nat.ne_of_gt lID)) eC fun h10 F10 N10 => ?_
      rw [List.take_length] at hacc
      clear F9 N9 F' N' F8 N8 GI F7 N7
      iterate 1 walk1
      refine f_sumM F10 N10 hh' (.head _) hacc fun h11 tk11 ts F11 N11 => ?_
      replace N11 : News hp L h11 ((I, oJ5) :: (T, O) :: own) := fun z hz => N11 z (List.mem_append_right _ (List.mem_append_left _ hz))
      clear F10 N10
      iterate 14 walk1
      refine f_lenS (Nat.le_trans qz (by decide)) ?_
      iterate 1 walk1
      refine f_modN (by decide) (by decide) ?_
      iterate 3 walk1
      rename_i h12 tk12 F12 N12
      clear F11 N11
      have bnd : ∀ {l2 : List (Str × Value)}, (∀ y, (y == Str.ofString "told") = false → (y == Str.ofString "some") = false → (y == Str.ofString "name") = false → lk l2 y = lk l' y) → Bound l2 S Wv Dr x D₀ := fun q => ⟨(q _ (by kernel_rfl) (by kernel_rfl) (by kernel_rfl)).trans B'.table, (q _ (by kernel_rfl) (by kernel_rfl) (by kernel_rfl)).trans B'.dress, (q _ (by kernel_rfl) (by kernel_rfl) (by kernel_rfl)).trans B'.ways, (q _ (by kernel_rfl) (by kernel_rfl) (by kernel_rfl)).trans B'.worths, (q _ (by kernel_rfl) (by kernel_rfl) (by kernel_rfl)).trans B'.script⟩
      by_cases hpar : (nmQ j).length % 2 = 1
      · rw [if_pos (by rw [hpar]; rfl)]
        iterate 5 walk1
        rename_i h13 tk13 F13 N13
        have eJ : toldJ (wAt ns 15) j + (someW (wAt ns 15) j).sum = toldJ (wAt ns 15) (j + 1) := by
          show _ = _ + (if _ then _ else _)
          rw [if_pos hpar]
        rw [eJ] at F13
        refine hPo _ _ (lp_next ?_)
        exact ⟨h13, _, _, oJ5, _, _, rfl, F13, N13, hJ5, bnd fun y a b c => lk_miss a (lk_miss b (lk_miss c rfl)), lk_hit, lk_miss (by kernel_rfl) (lk_miss (by kernel_rfl) (lk_miss (by kernel_rfl) lf))⟩
      · rw [if_neg (by intro e; have e' : (((nmQ j).length % 2 : Nat) : Int) = ((1 : Nat) : Int) := by simpa using e
                       exact hpar (by omega))]
        iterate 7 walk1
        rename_i h13 tk13 F13 N13
        have eJ : toldJ (wAt ns 15) j + -(someW (wAt ns 15) j).sum = toldJ (wAt ns 15) (j + 1) := by
          show _ = _ + (if _ then _ else _)
          rw [if_neg hpar]
        rw [eJ] at F13
        refine hPo _ _ (lp_next ?_)
        exact ⟨h13, _, _, oJ5, _, _, rfl, F13, N13, hJ5, bnd fun y a b c => lk_miss a (lk_miss b (lk_miss c rfl)), lk_hit, lk_miss (by kernel_rfl) (lk_miss (by kernel_rfl) (lk_miss (by kernel_rfl) lf))⟩
end Mine
end
section
theorem Mine.freshT45 : True := by
  w_top off
  trivial
namespace Mine
variable {w : World} {mg mb : Str → Option Value}
section
variable {prog : Program} {A : Around} {E : Value → Shared → Prop} {hp : Heap} {gs : Array GenState} {dr : Drawn} {tk : Nat} {os : OsState} {h₀ : Heap} {L : Addr} {m : Str → Option Value} {news : List (Addr × Obj)}
theorem f_unpack4 {a b c d : Str} {pa pb pc pd pos : Pos} {k : Nat} {x y z u : Value} {t : Addr} {env : Env} {Q : Unit → Shared → Prop} (F : Fr h₀ L hp m) (N : News h₀ L hp news) (ht : IsTup hp t #[x, y, z, u]) (hh : A.handled = none)
    (h : ∀ h', Fr h₀ L h' m → News h₀ L h' news → wpAny (model prog w) A (storeName env a x) (fun _ s₁ => wpAny (model prog w) A (storeName env b y) (fun _ s₂ => wpAny (model prog w) A (storeName env c z) (fun _ s₃ => wpAny (model prog w) A (storeName env d u) Q E s₃) E s₂) E s₁) E ⟨h', gs, dr, tk, os⟩) :
    wpAny (model prog w) A (assign (.Tuple [.Name a pa, .Name b pb, .Name c pc, .Name d pd] k pos) env (.ref t)) Q E ⟨hp, gs, dr, tk, os⟩ := by
  refine f_unpack F N ht hh rfl rfl fun h' F' N' => ?_
  refine assignInOrder_cons (assign_Name (wpAny_mono (h h' F' N') (fun _ s₁ h₁ => ?_) fun _ _ x => x))
  refine assignInOrder_cons (assign_Name (wpAny_mono h₁ (fun _ s₂ h₂ => ?_) fun _ _ x => x))
  refine assignInOrder_cons (assign_Name (wpAny_mono h₂ (fun _ s₃ h₃ => ?_) fun _ _ x => x))
  refine assignInOrder_cons (assign_Name ?_)
  exact wpAny_mono h₃ (fun _ s₄ h₄ => assignInOrder_nil h₄) fun _ _ x => x
theorem f_addS {x y : Str} {t u : Tok} {Q : Value → Shared → Prop} (hz : x.length + y.length ≤ 2 ^ 20) (h : ∀ t' k, Q (.str (x ++ y) t') ⟨hp, gs, dr, k, os⟩) : wpAny (model prog w) A (binaryOp .Add (.str x t) (.str y u)) Q E ⟨hp, gs, dr, tk, os⟩ := by
  refine PySem.SB.add (fun t' k => h t' k) (by rw [sizeLine_eq]; omega)
theorem pack5 {h : Heap} {own : List (Addr × Obj)} {a b c d e x y : Addr × Obj} (N : News h₀ L h (a :: b :: c :: d :: e :: x :: y :: own)) (hs : ∀ z ∈ own, z.1 ≠ x.1 ∧ z.1 ≠ y.1) (ha : x.1 < a.1 ∧ y.1 < a.1) (hb : x.1 < b.1 ∧ y.1 < b.1) (hc : x.1 < c.1 ∧ y.1 < c.1) (hd : x.1 < d.1 ∧ y.1 < d.1) (he : x.1 < e.1 ∧ y.1 < e.1) :
    ∃ own3, News h₀ L h (x :: y :: own3) ∧ (∀ z ∈ own, z ∈ own3) ∧ (∀ z ∈ own3, z.1 ≠ x.1 ∧ z.1 ≠ y.1) ∧ a ∈ own3 ∧ b ∈ own3 ∧ c ∈ own3 ∧ d ∈ own3 ∧ e ∈ own3 := by
  have ne : ∀ {u : Addr × Obj}, x.1 < u.1 ∧ y.1 < u.1 → u.1 ≠ x.1 ∧ u.1 ≠ y.1 := fun q => ⟨Nat.ne_of_gt q.1, Nat.ne_of_gt q.2⟩
  refine ⟨a :: b :: c :: d :: e :: own, fun z hz => N z ?_, fun z hz => .tail _ (.tail _ (.tail _ (.tail _ (.tail _ hz)))), fun z hz => ?_, .head _, .tail _ (.head _), .tail _ (.tail _ (.head _)), .tail _ (.tail _ (.tail _ (.head _))), .tail _ (.tail _ (.tail _ (.tail _ (.head _))))⟩
  · simp only [List.mem_cons] at hz ⊢
    grind
  · simp only [List.mem_cons] at hz
    rcases hz with rfl | rfl | rfl | rfl | rfl | hz
    · exact ne ha
    · exact ne hb
    · exact ne hc
    · exact ne hd
    · exact ne he
    · exact hs z hz
end
def fJ (j : Nat) : Str := if j % 2 = 0 then Str.ofString "((" else Str.ofString "))"
def sJ (j : Nat) : Str := if j % 2 = 0 then Str.ofString "))" else Str.ofString "(("
def dJ (p1 q1 v0 : Nat) (j : Nat) : Bool := if j = 0 then true else if j = 1 then false else if j = 2 then decide (q1 < v0) || decide (v0 < p1) else decide (q1 < v0)
def tJ (k : Nat) : Str := if k = 0 then Str.ofString "\\" else Str.ofString "(\")"
theorem turn_J {way : List (Nat × Nat)} (hw : way ∈ waysL) (ns : List Int) {p0 v0 p1 q1 : Nat} (h0 : way[0]? = some (p0, v0)) (h1 : way[1]? = some (p1, q1)) : ∀ j, j < 4 → PlainX (lineF way (j / 2) (dressF ns) (fJ j) (sJ j) ++ tJ (j / 2)) (dJ p1 q1 v0 j) := by
  obtain ⟨a, b, c, d⟩ := turn_plain hw ns
  have e0 : way.getD 0 (0, 0) = (p0, v0) := by rw [List.getD_eq_getElem?_getD, h0]; rfl
  have e1 : way.getD 1 (0, 0) = (p1, q1) := by rw [List.getD_eq_getElem?_getD, h1]; rfl
  rw [e0, e1] at c d
  intro j hj
  match j, hj with
  | 0, _ => exact a
  | 1, _ => exact b
  | 2, _ => exact c
  | 3, _ => exact d
  | n + 4, hj => exact absurd hj (by omega)
theorem fs_len : ∀ j, j < 4 → (fJ j).length ≤ 2 ∧ (sJ j).length ≤ 2 := by decide
theorem law_turned {prog : Program} {A : Around} {R : Result → Shared → Prop} {hp h : Heap} {gs : Array GenState} {dr : Drawn} {tk : Nat} {os : OsState} {D₀ L f cp cq S Wv Dr x dx H : Addr} {cd : Value} {nm : Str} {ns : List Int} {vs : List Value} {own own0 : List (Addr × Obj)} {op oq : Obj} {vp vq : Option Value} {l : List (Str × Value)} {hsh : Int} {th t1 t2 : Tok} (G : Gl w mg mb hp) (F : Fr hp L h (lk l)) (N : News hp L h ((cp, op) :: (cq, oq) :: own))
    (hop : op.data = .cell vp) (hoq : oq.data = .cell vq) (hB : Bound l S Wv Dr x D₀) (hown0 : ∀ z ∈ own0, z ∈ own) (hways : ∃ acc eW, (Wv, listOf acc.toArray eW) ∈ own ∧ WaysK acc own0 waysL) (hdress : ∃ vd eD, (Dr, listOf vd.toArray eD) ∈ own ∧ StrsAre vd (dressF ns)) (hbare : ∀ y ∈ gs, y.bare = true) (hsep : ∀ p ∈ own, p.1 ≠ cp ∧ p.1 ≠ cq) (hcc : cp ≠ cq)
    (hl : hp.IsList D₀ vs.toArray) (hi : IntsAre vs ns) (hn : ns.length ≤ 63) (hto : lk l (Str.ofString "told") = some (.int (toldW (wAt ns 15)) t1)) (hfar : lk l (Str.ofString "far") = some (.int (10 ^ 40) t2)) (hh : A.handled = none) (hroom : A.depth + 60 < recursionLimit) (hu : A.units + 100 < cLine)
    (hK : ∀ (h' : Heap) (gs' : Array GenState) (tk' : Nat) (l' : List (Str × Value)) (op oq : Obj) (vp vq : Option Value) (way : List (Nat × Nat)) (v : Value), (∀ y ∈ gs', y.bare = true) → Fr hp L h' (lk l') → News hp L h' ((cp, op) :: (cq, oq) :: own) → op.data = .cell vp → oq.data = .cell vq → Bound l' S Wv Dr x D₀ → way ∈ waysL → WayK own0 v way → lk l' (Str.ofString "way") = some v → lk l' (Str.ofString "told") = some (.int (toldW (wAt ns 15)) t1) → lk l' (Str.ofString "far") = some (.int (10 ^ 40) t2) →
      wpAny (model prog w) (A.deeper (envG nm (lawS w).1 L f cd [("q", cq), ("p", cp)])) (execs ((lawB w).1.drop 13) (envG nm (lawS w).1 L f cd [("q", cq), ("p", cp)])) (Rt R) (Lv (model prog w) A (envG nm (lawS w).1 L f cd [("q", cq), ("p", cp)]) R) ⟨h', gs', dr, tk', os⟩) :
    wpAny (model prog w) (A.deeper (envG nm (lawS w).1 L f cd [("q", cq), ("p", cp)])) (execs ((lawB w).1.drop 8) (envG nm (lawS w).1 L f cd [("q", cq), ("p", cp)])) (Rt R) (Lv (model prog w) A (envG nm (lawS w).1 L f cd [("q", cq), ("p", cp)]) R) ⟨h, gs, dr, tk, os⟩ := by
  rw [show (lawB w).1.drop 8 = _ :: _ :: _ :: _ :: _ :: (lawB w).1.drop 13 from rfl]
  have hh' : (A.deeper (envG nm (lawS w).1 L f cd [("q", cq), ("p", cp)])).handled = none := hh
  have X₀ := G.X
  have lW := hB.ways
  have lSc := hB.script
  have hn7 : ns.sum.natAbs % 15 < 15 := Nat.mod_lt _ (by decide)
  obtain ⟨acc, eW, hWm, hWK0⟩ := hways
  obtain ⟨way, hway⟩ : ∃ way, waysL[ns.sum.natAbs % 15]? = some way := ⟨_, List.getElem?_eq_getElem (by exact hn7)⟩
  have hwm : way ∈ waysL := List.mem_of_getElem? hway
  have hwl := ways_len way hwm
  obtain ⟨v, hv, hwk0⟩ := hWK0.2 _ way hway
  obtain ⟨lw, us, ew, rfl, hlwm, hul, hus⟩ := hwk0.sub hown0
  obtain ⟨⟨p0, v0⟩, h0⟩ : ∃ r, way[0]? = some r := ⟨_, List.getElem?_eq_getElem (by omega)⟩
  obtain ⟨⟨p1, q1⟩, h1⟩ : ∃ r, way[1]? = some r := ⟨_, List.getElem?_eq_getElem (by omega)⟩
  obtain ⟨T0, ta0, tb0, hT0, hT0m⟩ := hus 0 (p0, v0) h0
  obtain ⟨T1, ta1, tb1, hT1, hT1m⟩ := hus 1 (p1, q1) h1
  have up : ∀ {z : Addr × Obj}, z ∈ own → z ∈ (cp, op) :: (cq, oq) :: own := fun hz => .tail _ (.tail _ hz)
  iterate 15 walk1
  refine f_sum F N hh' hl hi fun h2 tk2 ts F2 N2 => ?_
  clear F N
  iterate 1 walk1
  refine f_abs fun ua tk3 => ?_
  iterate 1 walk1
  refine f_modN (by decide) (by decide) ?_
  refine at_mem N2 (up hWm) (by omega) hv ?_
  iterate 8 walk1
  rename_i h3 tk4 F3 N3
  clear F2 N2
  refine at_mem N3 (up hlwm) (by omega) hT0 ?_
  iterate 1 walk1
  have hTT0 : IsTup h3 T0 #[Value.int (p0 : Nat) ta0, Value.int (v0 : Nat) tb0] := ⟨_, (N3 _ (up hT0m)).1, rfl, 0, rfl⟩
  refine at_tup1 hTT0 ?_
  clear hTT0
  iterate 7 walk1
  rename_i h4 tk5 F4 N4
  clear F3 N3
  refine at_mem N4 (up hlwm) (by omega) hT1 ?_
  have hTT1 : IsTup h4 T1 #[Value.int (p1 : Nat) ta1, Value.int (q1 : Nat) tb1] := ⟨_, (N4 _ (up hT1m)).1, rfl, 0, rfl⟩
  refine f_unpack2 F4 N4 hTT1 hh' fun h5 F5 N5 => ?_
  clear hTT1 up
  have hneP : ∀ z ∈ (cq, oq) :: own, z.1 ≠ cp := ne_cons (hcc.symm) (fun z hz => (hsep z hz).1)
  refine' st_cell F5 N5 (by kernel_rfl) (by kernel_rfl) (by rfl) ?U hop ?_
  case U => exact .head hneP
  intro h6 op2 F6 N6 dP
  refine' st_cell F6 N6 (by kernel_rfl) (by kernel_rfl) (by rfl) ?U hoq ?_
  case U => exact .tail hcc (.head fun z hz => (hsep z hz).2)
  intro h7 oq2 F7 N7 dQ
  clear F4 N4 F5 N5 F6 N6
  dsimp only
  iterate 16 walk1
  rename_i A0 h8 F8 N8 q8
  generalize hO0 : tupOf _ = O0 at N8
  clear F7 N7
  iterate 12 walk1
  rename_i A1 h9 F9 N9 q9
  generalize hO1 : tupOf _ = O1 at N9
  clear F8 N8
  iterate 9 walk1
  refine wpAny_mono (Q := fun v s' => v = Value.bool (decide (q1 < v0) || decide (v0 < p1)) ∧ ∃ tk', s' = ⟨h9, gs, dr, tk', os⟩) ?bo (fun v s' hv => ?_) (fun _ _ x => x)
  case bo =>
    iterate 7 walk1
    · rename_i hc
      have hc' : q1 < v0 := by omega
      exact ⟨by simp [hc'], _, rfl⟩
    · rename_i hc
      have hc' : ¬ q1 < v0 := by omega
      iterate 5 walk1
      refine ⟨?_, _, rfl⟩
      simp [hc']
  obtain ⟨rfl, tk6, rfl⟩ := hv
  iterate 2 walk1
  rename_i A2 h10 F10 N10 q10
  generalize hO2 : tupOf _ = O2 at N10
  clear F9 N9
  iterate 15 walk1
  rename_i A3 h11 F11 N11 q11
  generalize hO3 : tupOf _ = O3 at N11
  clear F10 N10
  iterate 2 walk1
  rename_i TL h12 F12 N12 q12
  clear F11 N11
  iterate 4 walk1
  rename_i h13 tk13 F13 N13
  clear F12 N12
  iterate 1 walk1
  have px := turn_J hwm ns h0 h1
  obtain ⟨own3, N14, sub3, sep3, mTL, m3, m2, m1, m0⟩ := pack5 N13 hsep ⟨q12 (cp, op2) (.tail _ (.tail _ (.tail _ (.tail _ (.head _))))), q12 (cq, oq2) (.tail _ (.tail _ (.tail _ (.tail _ (.tail _ (.head _))))))⟩ ⟨q11 (cp, op2) (.tail _ (.tail _ (.tail _ (.head _)))), q11 (cq, oq2) (.tail _ (.tail _ (.tail _ (.tail _ (.head _)))))⟩ ⟨q10 (cp, op2) (.tail _ (.tail _ (.head _))), q10 (cq, oq2) (.tail _ (.tail _ (.tail _ (.head _))))⟩ ⟨q9 (cp, op2) (.tail _ (.head _)), q9 (cq, oq2) (.tail _ (.tail _ (.head _)))⟩ ⟨q8 (cp, op2) (.head _), q8 (cq, oq2) (.tail _ (.head _))⟩
  have e3 : (decide ((q1 : Int) < (v0 : Int))) = decide (q1 < v0) := decide_eq_decide.mpr (by omega)
  rw [e3] at hO3
  rw [← hO0] at m0
  rw [← hO1] at m1
  rw [← hO2] at m2
  rw [← hO3] at m3
  clear hO0 hO1 hO2 hO3
  have hTs : ∀ j, j < 4 → ∃ (B : Addr) (u0 u1 u2 : Tok), [Value.ref A0, Value.ref A1, Value.ref A2, Value.ref A3][j]? = some (.ref B) ∧ (B, tupOf #[.int ((j / 2 : Nat) : Int) u0, .str (fJ j) u1, .str (sJ j) u2, .bool (dJ p1 q1 v0 j)]) ∈ own3 := fun j hj => match j, hj with
    | 0, _ => ⟨A0, _, _, _, rfl, m0⟩
    | 1, _ => ⟨A1, _, _, _, rfl, m1⟩
    | 2, _ => ⟨A2, _, _, _, rfl, m2⟩
    | 3, _ => ⟨A3, _, _, _, rfl, m3⟩
    | n + 4, hj => absurd hj (by omega)
  clear q12 q11 q10 q9 q8 m0 m1 m2 m3 N13 e3
  have up3 : ∀ {z : Addr × Obj} {a b c : Addr × Obj}, z ∈ own → z ∈ a :: b :: c :: own3 := fun hz => .tail _ (.tail _ (.tail _ (sub3 _ hz)))
  obtain ⟨oTL, hTL⟩ : ∃ e, (TL, listOf [Value.ref A0, Value.ref A1, Value.ref A2, Value.ref A3].toArray e) ∈ own3 := ⟨_, mTL⟩
  clear mTL
  refine f_iter_list F13 N14 (PySem.IsL.isList (n := oTL) (N14 _ (.tail _ (.tail _ hTL))).1) fun I h14 oI F15 N15 q15 hI => ?_
  have hPI : cp ≠ I := Nat.ne_of_lt (q15 (cp, op2) (.head _))
  have hQI : cq ≠ I := Nat.ne_of_lt (q15 (cq, oq2) (.tail _ (.head _)))
  have hOI : ∀ p ∈ own3, p.1 ≠ I := fun p hp => Nat.ne_of_lt (q15 p (.tail _ (.tail _ hp)))
  have hnI : ∀ p ∈ (cp, op2) :: (cq, oq2) :: own3, p.1 ≠ I := ne_cons (hPI) (ne_cons (hQI) (fun p hp => hOI p hp))
  clear F13 N14 q15
  obtain ⟨vd, eD, hDm, hDs⟩ := hdress
  refine loop_ruleP lv_passes (fun j s' => Ex5 fun (h' : Heap) (gs' : Array GenState) (tk' : Nat) (l' : List (Str × Value)) (oJ : Obj) => All9 (s' = ⟨h', gs', dr, tk', os⟩) (∀ y ∈ gs', y.bare = true) (Fr hp L h' (lk l')) (News hp L h' ((I, oJ) :: (cp, op2) :: (cq, oq2) :: own3)) (LI oJ TL j) (Bound l' S Wv Dr x D₀) (lk l' (Str.ofString "way") = some (.ref lw)) (lk l' (Str.ofString "told") = some (.int (toldW (wAt ns 15)) t1)) (lk l' (Str.ofString "far") = some (.int (10 ^ 40) t2))) 4 ?h0 ?turn ?done
  case h0 =>
    have q3 : ∀ {y : Str} {a : Value}, (y == Str.ofString "turned") = false → (y == Str.ofString "v") = false → (y == Str.ofString "way") = false → lk l y = some a → lk (("turned", Value.ref TL) :: ("v", Value.int (v0 : Nat) tb0) :: ("way", Value.ref lw) :: l) y = some a := fun a b c d => lk_miss a (lk_miss b (lk_miss c d))
    exact ⟨h14, gs, _, _, oI, rfl, hbare, F15, N15, hI, ⟨q3 (by kernel_rfl) (by kernel_rfl) (by kernel_rfl) hB.table, q3 (by kernel_rfl) (by kernel_rfl) (by kernel_rfl) hB.dress, q3 (by kernel_rfl) (by kernel_rfl) (by kernel_rfl) hB.ways, q3 (by kernel_rfl) (by kernel_rfl) (by kernel_rfl) hB.worths, q3 (by kernel_rfl) (by kernel_rfl) (by kernel_rfl) hB.script⟩, lk_miss (by kernel_rfl) (lk_miss (by kernel_rfl) lk_hit), q3 (by kernel_rfl) (by kernel_rfl) (by kernel_rfl) hto, q3 (by kernel_rfl) (by kernel_rfl) (by kernel_rfl) hfar⟩
  case done =>
    rintro Po Xo hPo _ ⟨h', gs', tk', l', oJ, rfl, bare', F', N', hJ, B', lway, lto, lfar⟩
    refine next_list_end hh' F' N' hnI hJ (PySem.IsL.isList (n := oTL) (N' _ (.tail _ (.tail _ (.tail _ hTL)))).1) (by rfl) fun h15 F16 N16 => ⟨rfl, hPo _ ?_⟩
    refine hK h15 gs' tk' l' op2 oq2 _ _ way (.ref lw) bare' F16 (fun z hz => N16 z ?_) dP dQ B' hwm hwk0 lway lto lfar
    rcases List.mem_cons.mp hz with rfl | hz
    · exact .head _
    rcases List.mem_cons.mp hz with rfl | hz
    · exact .tail _ (.head _)
    · exact .tail _ (.tail _ (sub3 _ hz))
  case turn =>
    rintro Po Xo hXo j _ hj hPo ⟨h', gs', tk', l', oJ, rfl, bare', F', N', hJ, B', lway, lto, lfar⟩
    obtain ⟨B, u0, u1, u2, hBj, hBm⟩ := hTs j hj
    refine next_list F' N' hnI hJ (PySem.IsL.isList (n := oTL) (N' _ (.tail _ (.tail _ (.tail _ hTL)))).1) (by rw [List.getElem?_toArray]; exact hBj) fun h15 oJ5 F16 N16 hJ5 => ⟨_, rfl, letGo_list N16 hJ5 ?_⟩
    refine f_unpack4 F16 N16 ⟨_, (N16 _ (.tail _ (.tail _ (.tail _ hBm)))).1, rfl, 0, rfl⟩ hh' fun h16 F17 N17 => ?_
    clear F' N' F16 N16 F15 N15
    have lDress := B'.dress
    iterate 4 walk1
    rename_i h18 tk18 F18 N18 h19 tk19 F19 N19 h20 tk20 F20 N20 h21 tk21 F21 N21
    clear F17 N17 F18 N18 F19 N19 F20 N20
    iterate 18 walk1
    have hj2 : j / 2 < 2 := by omega
    obtain ⟨fz, sz⟩ := fs_len j hj
    have pxj := px j hj
    refine line_spec (way := way) (k := j / 2) (dress := dressF ns) (vs := vd) (G.keeps F21.keep) (WayK.at (own := own) ⟨lw, us, ew, rfl, hlwm, hul, hus⟩ fun z hz => (N21 z (up3 hz)).1) (by omega) (Nat.le_of_eq hwl) (PySem.IsL.isList (n := eD) (N21 _ (up3 hDm)).1) hDs (dressF_len ns) (fun pq h => by have := ways_pts way hwm pq h; omega) (dressF_short ns) fz sz hh' (room1 hroom) fun h22 tk22 u22 k22 => ?_
    have F22 := fr_ext (as := []) F21 (fun _ h => nomatch h) k22
    have N22 := news_keep N21 fun b o e => k22 b o List.not_mem_nil e
    clear F21 N21 k22
    iterate 9 walk1
    rename_i TT h23 F23 N23 q23
    clear F22 N22
    obtain ⟨tt, htt⟩ : ∃ tt, [Value.str (Str.ofString "\\") tk22, Value.str (Str.ofString "(\")") (tk22 + 1)][j / 2]? = some (.str (tJ (j / 2)) tt) := by
      have : j / 2 = 0 ∨ j / 2 = 1 := by omega
      rcases this with e | e <;> rw [e]
      · exact ⟨_, rfl⟩
      · exact ⟨_, rfl⟩
    refine at_mem (vs := [Value.str (Str.ofString "\\") tk22, Value.str (Str.ofString "(\")") (tk22 + 1)]) N23 (.head _) (by omega) htt ?_
    have pz := pxj.z
    rw [Str.length_append] at pz
    refine f_addS (Nat.le_trans pz (by decide)) fun t24 k24 => ?_
    replace N23 : News hp L h23 ((I, oJ5) :: (cp, op2) :: (cq, oq2) :: own3) := fun z hz => N23 z (.tail _ hz)
    iterate 3 walk1
    rename_i h25 tk25 F25 N25
    clear F23 N23 q23
    iterate 8 walk1
    refine check_spec (G.keeps F25.keep) pxj.a pxj.z pxj.a' pxj.z' hh' (room1 hroom) fun h26 gs26 tk26 k26 b26 => ?_
    rw [pxj.c]
    have F26 := fr_ext (as := []) F25 (fun _ h => nomatch h) k26
    have N26 := news_keep N25 fun b o e => k26 b o List.not_mem_nil e
    have bare26 := b26 bare'
    clear F25 N25 k26 b26
    iterate 4 walk1
    rename_i h27 tk27 F27 N27
    clear F26 N26
    iterate 24 walk1
    rename_i X1 h28 F28 N28 q28 X2 h29 F29 N29 q29
    clear F27 N27 F28 N28
    refine f_neB (N29 (X1, _) (.tail _ (.head _))).1 (N29 (X2, _) (.head _)).1 (by show A.units + 3 < cLine; omega) ?_
    have eb : (!((dJ p1 q1 v0 j == true) == dJ p1 q1 v0 j && (dJ p1 q1 v0 j == false) == !dJ p1 q1 v0 j)) = false := by
      cases dJ p1 q1 v0 j <;> rfl
    rw [eb]
    replace N29 : News hp L h29 ((I, oJ5) :: (cp, op2) :: (cq, oq2) :: own3) := fun z hz => N29 z (.tail _ (.tail _ hz))
    iterate 5 walk1
    have q6 : ∀ {y : Str} {a : Value} {x1 x2 x3 x4 x5 x6 : Value}, (y == Str.ofString "taken") = false → (y == Str.ofString "line") = false → (y == Str.ofString "due") = false → (y == Str.ofString "second") = false → (y == Str.ofString "first") = false → (y == Str.ofString "k") = false → lk l' y = some a → lk (("taken", x1) :: ("line", x2) :: ("due", x3) :: ("second", x4) :: ("first", x5) :: ("k", x6) :: l') y = some a := fun a b c d e f g => lk_miss a (lk_miss b (lk_miss c (lk_miss d (lk_miss e (lk_miss f g)))))
    refine hPo _ _ (lp_next ?_)
    exact ⟨h29, gs26, _, _, oJ5, rfl, bare26, F29, N29, hJ5, ⟨q6 (by kernel_rfl) (by kernel_rfl) (by kernel_rfl) (by kernel_rfl) (by kernel_rfl) (by kernel_rfl) B'.table, q6 (by kernel_rfl) (by kernel_rfl) (by kernel_rfl) (by kernel_rfl) (by kernel_rfl) (by kernel_rfl) B'.dress, q6 (by kernel_rfl) (by kernel_rfl) (by kernel_rfl) (by kernel_rfl) (by kernel_rfl) (by kernel_rfl) B'.ways, q6 (by kernel_rfl) (by kernel_rfl) (by kernel_rfl) (by kernel_rfl) (by kernel_rfl) (by kernel_rfl) B'.worths, q6 (by kernel_rfl) (by kernel_rfl) (by kernel_rfl) (by kernel_rfl) (by kernel_rfl) (by kernel_rfl) B'.script⟩, q6 (by kernel_rfl) (by kernel_rfl) (by kernel_rfl) (by kernel_rfl) (by kernel_rfl) (by kernel_rfl) lway, q6 (by kernel_rfl) (by kernel_rfl) (by kernel_rfl) (by kernel_rfl) (by kernel_rfl) (by kernel_rfl) lto, q6 (by kernel_rfl) (by kernel_rfl) (by kernel_rfl) (by kernel_rfl) (by kernel_rfl) (by kernel_rfl) lfar⟩
end Mine
end
section
theorem Mine.freshT46 : True := by
  w_top off
  trivial
namespace Mine
variable {w : World} {mg mb : Str → Option Value}
section
variable {prog : Program} {A : Around} {E : Value → Shared → Prop} {hp : Heap} {gs : Array GenState} {dr : Drawn} {tk : Nat} {os : OsState} {h₀ : Heap} {L : Addr} {m : Str → Option Value} {news : List (Addr × Obj)} {env : Env}
theorem draw_list {it t : Addr} {items : Array Value} (hne : t ≠ it) : ∀ (n i : Nat) (s : Shared) (Q : List Value → Shared → Prop), s.heap.IsListIter it t i → s.heap.IsList t items → i + n ≤ items.size →
    (∀ h', Heap.IsListIter h' it t (i + n) → Heap.SameBut it s.heap h' → Q ((items.toList.drop i).take n) { s with heap := h' }) → wpAny (model prog w) A (draw (.ref it) n) Q E s
  | 0, i, s, Q, hit, _, _, hQ => by
    show wpAny _ _ (pure []) Q E s
    exact wpAny_pure (by simpa using hQ s.heap hit (Heap.SameBut.refl ..))
  | n + 1, i, s, Q, hit, ht, hle, hQ => by
    have hlt : i < items.size := by omega
    show wpAny _ _ (pyNext (.ref it) >>= _) Q E s
    refine wpAny_bind (wpAny_pyNext_list_item hit ht (x := items[i]) (by simp [hlt]) fun h₁ hit₁ hs₁ => ?_)
    have ht₁ : h₁.IsList t items := let ⟨o, ho, r⟩ := ht; ⟨o, hs₁.extBut _ _ hne ho, r⟩
    refine wpAny_bind (wpAny_holding (draw_list hne n (i + 1) _ _ hit₁ ht₁ (by omega) fun h₂ hit₂ hs₂ => wpAny_pure ?_))
    have hd : items.toList.drop i = items[i] :: items.toList.drop (i + 1) := by simp [List.drop_eq_getElem_cons, hlt]
    have := hQ h₂ (by rw [show i + (n + 1) = i + 1 + n by omega]; exact hit₂) (hs₁.trans hs₂)
    rw [hd, List.take_succ_cons] at this
    exact this
theorem unpackItems_list {s : Shared} {t : Addr} {items : Array Value} {Q : List Value → Shared → Prop} (hh : A.handled = none) (ht : s.heap.IsList t items)
    (hQ : ∀ h', Heap.ExtBut s.heap.objs.size s.heap h' → Q items.toList { s with heap := h' }) : wpAny (model prog w) A (unpackItems (.ref t) items.size none) Q E s := by
  have hlt : t ≠ s.heap.objs.size := by obtain ⟨o, ho, _⟩ := ht; exact Nat.ne_of_lt (Heap.lt_size ho)
  unfold unpackItems
  refine wpAny_bind ?_
  · unfold notIterableAtAll
    refine wpAny_bind (wpAny_specialOf ht.typeIs slot_list_iter.lookup ?_)
    refine wpAny_pure ?_
    simp only [Bool.false_eq_true, if_false]
    refine wpAny_bind (wpAny_holding (wpAny_pyIter_list ht ?_))
    refine wpAny_bind (wpAny_holding (draw_list hlt items.size 0 _ _ ⟨_, Heap.get?_push_size _ rfl, rfl, rfl⟩ (ht.push _) (by omega) fun h₁ hit₁ hs₁ => ?_))
    have hall : List.take items.size (List.drop 0 items.toList) = items.toList := by
      rw [List.drop_zero]; exact List.take_of_length_le (by simp)
    rw [hall]
    rw [if_neg (by simp)]
    have ht₁ : h₁.IsList t items := let ⟨o, ho, r⟩ := ht.push _; ⟨o, hs₁.extBut _ _ hlt ho, r⟩
    refine wpAny_bind (wpAny_holding (wpAny_pyNext_list_end hh hit₁ ht₁ (by simp) fun h₂ he₂ => ?_))
    simp only [Option.isSome_none, Bool.false_eq_true, if_false]
    refine wpAny_pure (hQ h₂ fun b o hb e => he₂ b o hb (hs₁.extBut b o hb (Heap.get?_push_of_some _ e)))
theorem f_unpackL {elts : List Expr} {k} {pos : Pos} {t : Addr} {items : Array Value} {Q : Unit → Shared → Prop} (F : Fr h₀ L hp m) (N : News h₀ L hp news) (ht : hp.IsList t items)
    (hh : A.handled = none) (hn : (assignEach elts env).length = items.size) (hstar : (assignEach elts env).findIdx? (·.1) = none)
    (h : ∀ h', Fr h₀ L h' m → News h₀ L h' news → wpAny (model prog w) A (assignInOrder ((assignEach elts env).map (·.2)) items.toList) Q E ⟨h', gs, dr, tk, os⟩) :
    wpAny (model prog w) A (assign (.Tuple elts k pos) env (.ref t)) Q E ⟨hp, gs, dr, tk, os⟩ := by
  rw [assign_Tuple]
  refine wpAny_bind (wpAny_standAt ?_)
  unfold unpack
  rw [hn, hstar]
  exact wpAny_bind (wpAny_holding (unpackItems_list (s := ⟨hp, gs, dr, tk, os⟩) hh ht fun h' he => h h' (F.extBut he (Nat.le_refl _)) (N.extBut he (Nat.le_refl _))))
theorem f_unpackL4 {a b c d : Str} {pa pb pc pd pos : Pos} {k : Nat} {x y z u : Value} {t : Addr} {Q : Unit → Shared → Prop} (F : Fr h₀ L hp m) (N : News h₀ L hp news) (ht : hp.IsList t #[x, y, z, u]) (hh : A.handled = none)
    (h : ∀ h', Fr h₀ L h' m → News h₀ L h' news → wpAny (model prog w) A (storeName env a x) (fun _ s₁ => wpAny (model prog w) A (storeName env b y) (fun _ s₂ => wpAny (model prog w) A (storeName env c z) (fun _ s₃ => wpAny (model prog w) A (storeName env d u) Q E s₃) E s₂) E s₁) E ⟨h', gs, dr, tk, os⟩) :
    wpAny (model prog w) A (assign (.Tuple [.Name a pa, .Name b pb, .Name c pc, .Name d pd] k pos) env (.ref t)) Q E ⟨hp, gs, dr, tk, os⟩ := by
  refine f_unpackL F N ht hh rfl rfl fun h' F' N' => ?_
  refine assignInOrder_cons (assign_Name (wpAny_mono (h h' F' N') (fun _ s₁ h₁ => ?_) fun _ _ x => x))
  refine assignInOrder_cons (assign_Name (wpAny_mono h₁ (fun _ s₂ h₂ => ?_) fun _ _ x => x))
  refine assignInOrder_cons (assign_Name (wpAny_mono h₂ (fun _ s₃ h₃ => ?_) fun _ _ x => x))
  refine assignInOrder_cons (assign_Name ?_)
  exact wpAny_mono h₃ (fun _ s₄ h₄ => assignInOrder_nil h₄) fun _ _ x => x
end
theorem matB_mat {own : List (Addr × Obj)} {rows : List Value} {W : Nat → Nat → Int} {S : Addr} {eS : Nat} {h : Heap} (M : MatB own rows W) (hS : h.get? S = some (listOf rows.toArray eS)) (H : ∀ z ∈ own, h.get? z.1 = some z.2) (hr : rows.length = 6) : Mat h S W := by
  refine ⟨rows, PySem.IsL.isList (n := eS) hS, hr, fun i hi => ?_⟩
  obtain ⟨r, cs, er, e, hm, hl, hc⟩ := M.2.2 i hi
  exact ⟨r, e, cs, PySem.IsL.isList (n := er) (H _ hm), hl, hc⟩
theorem sm100 (ns : List Int) (i j : Nat) : Sm 100 (wAt ns 15 i j) := by
  have := wAt_bound ns 15 i j
  unfold Sm
  have h1 : halfN + 9 < 2 ^ 100 := by decide
  omega
/-- the tables of the two converters, as the law's ledger holds them -/
structure TbOk (w : World) (h₀ : Heap) (L : Addr) (tb : List (Addr × Obj)) : Prop where
  p : ∃ ps, (75, tabObj ps) ∈ tb
  r : ∃ rs, (82, tabObj rs) ∈ tb
  k : ∀ z ∈ tb, z.1 = 75 ∨ z.1 = 82 ∨ CodeKind z
  t : ∀ h m, Fr h₀ L h m → News h₀ L h tb → Tabs w h
theorem TbOk.start {h₀ : Heap} {L : Addr} : TbOk w h₀ L [(75, tabObj #[]), (82, tabObj #[])] :=
  ⟨⟨_, .head _⟩, ⟨_, .tail _ (.head _)⟩, fun z hz => by
    rcases List.mem_cons.mp hz with rfl | hz
    · exact .inl rfl
    · rw [List.mem_singleton.mp hz]; exact .inr (.inl rfl), fun h m F N => ⟨⟨#[], (N _ (.head _)).1, by trivial, .inl rfl⟩, ⟨#[], (N _ (.tail _ (.head _))).1, by trivial, .inl rfl⟩⟩⟩
/-- behind a call that has changed the tables -/
theorem TbOk.next {h₀ h h' : Heap} {L : Addr} {m : Str → Option Value} {tb rest : List (Addr × Obj)} (T : TbOk w h₀ L tb) (F : Fr h₀ L h m) (N : News h₀ L h (rest ++ tb)) (hne : ∀ z ∈ rest, z.1 ≠ 75 ∧ z.1 ≠ 82) (k : Ext [75, 82] h h') (T' : Tabs w h') :
    Fr h₀ L h' m ∧ ∃ tb', TbOk w h₀ L tb' ∧ News h₀ L h' (rest ++ tb') := by
  obtain ⟨ps, hps⟩ := T.p
  obtain ⟨rs, hrs⟩ := T.r
  have z75 := N _ (List.mem_append_right rest hps)
  have z82 := N _ (List.mem_append_right rest hrs)
  have F' : Fr h₀ L h' m := fr_ext F (fun x hx => by
    rcases List.mem_cons.mp hx with rfl | hx
    · exact z75.2
    · rw [List.mem_singleton.mp hx]; exact z82.2) k
  refine ⟨F', ?_⟩
  obtain ⟨ps', X, hP, I, NX, KX⟩ := T'.1.into F'
  obtain ⟨rs', Y, hR, J, NY, KY⟩ := T'.2.into F'
  refine ⟨(75, tabObj ps') :: (82, tabObj rs') :: (X ++ Y), ⟨⟨_, .head _⟩, ⟨_, .tail _ (.head _)⟩, fun z hz => ?_, fun h₃ m₃ F₃ N₃ => ⟨I.out F₃ (fun p hp => N₃ p ?_) (N₃ (75, tabObj ps') (.head _)).1, J.out F₃ (fun p hp => N₃ p ?_) (N₃ (82, tabObj rs') (.tail _ (.head _))).1⟩⟩, fun z hz => ?_⟩
  · rcases List.mem_cons.mp hz with rfl | hz
    · exact .inl rfl
    rcases List.mem_cons.mp hz with rfl | hz
    · exact .inr (.inl rfl)
    rcases List.mem_append.mp hz with hz | hz
    · exact .inr (.inr (KX z hz))
    · exact .inr (.inr (KY z hz))
  · exact .tail _ (.tail _ (List.mem_append_left _ hp))
  · exact .tail _ (.tail _ (List.mem_append_right _ hp))
  · rcases List.mem_append.mp hz with hz | hz
    · have q := hne z hz
      exact ⟨k _ _ (fun e => by
        rcases List.mem_cons.mp e with e | e
        · exact q.1 e
        · exact q.2 (List.mem_singleton.mp e)) (N z (List.mem_append_left _ hz)).1, (N z (List.mem_append_left _ hz)).2⟩
    rcases List.mem_cons.mp hz with rfl | hz
    · exact ⟨hP, z75.2⟩
    rcases List.mem_cons.mp hz with rfl | hz
    · exact ⟨hR, z82.2⟩
    rcases List.mem_append.mp hz with hz | hz
    · exact NX z hz
    · exact NY z hz
theorem TbOk.ne {h₀ h : Heap} {L a : Addr} {tb news : List (Addr × Obj)} {o : Obj} (T : TbOk w h₀ L tb) (N : News h₀ L h news) (hs : ∀ z ∈ tb, z ∈ news) (ha : (a, o) ∈ news) (h1 : a ≠ 75) (h2 : a ≠ 82) (ho : ¬ CodeKind (a, o)) : ∀ z ∈ tb, z.1 ≠ a := fun z hz e => by
  rcases T.k z hz with q | q | q
  · exact h1 (e.symm.trans q)
  · exact h2 (e.symm.trans q)
  · have e1 := (N z (hs z hz)).1
    rw [e, (N _ ha).1] at e1
    exact ho (by
      obtain ⟨vs, q1, t, d, v⟩ := q
      exact ⟨vs, q1, t, by rw [← d]; exact congrArg Obj.data (Option.some.inj e1), v⟩)
theorem ri_noCode {a : Addr} {x n : Nat} : ¬ CodeKind (a, riObj x n) := fun ⟨vs, q, t, d, v⟩ => by
  have : vs = #[rawInt (x : Int), rawInt (n : Int), rawInt 1] := by injection d with d; exact d.symm
  rw [this] at v
  have v' : rawInt (n : Int) = Value.str q t := Option.some.inj v
  exact nomatch v'
theorem cell_noCode {a : Addr} {o : Obj} {v : Option Value} (h : o.data = .cell v) : ¬ CodeKind (a, o) := fun ⟨vs, q, t, d, _⟩ => by
  rw [show o.data = .fields vs from d] at h
  exact nomatch h
end Mine
end
section
theorem Mine.freshT48 : True := by
  w_top off
  trivial
namespace Mine
variable {w : World} {mg mb : Str → Option Value}
theorem f_caught {prog : Program} {A : Around} {E : Value → Shared → Prop} {hp h : Heap} {h₀ : Heap} {L f e : Addr} {l : List (Str × Value)} {news : List (Addr × Obj)} {gs : Array GenState} {dr : Drawn} {tk : Nat} {os : OsState} {nm : Str} {sc : Scope} {cd a0 : Value} {cl : List (Str × Addr)} {np pos : Pos} {b₀ : Stmt} {suite : List Stmt} {Q : Flow → Shared → Prop}
    (hfr : A.frames = some []) (G : Gl w mg mb h₀) (F : Fr h₀ L h (lk l)) (N : News h₀ L h news) (hpl : plainS sc = true) (hk : kindS sc (Str.ofString "ZeroDivisionError") = some .globalImplicit)
    (hfl : Heap.FlyingW (hideAll h [L]) [envG nm sc L f cd cl] e (.type "ZeroDivisionError") a0 hp) (hup : h.UpToSlots hp)
    (k : ∀ h' E', Fr h₀ L h' (lk l) → News h₀ L h' news → wpAny (model prog w) ((A.deeper (envG nm sc L f cd cl)).mark (some (.ref e))) (execs (b₀ :: suite) (envG nm sc L f cd cl)) Q E' ⟨h', gs, dr, tk, os⟩) :
    wpAny (model prog w) (A.deeper (envG nm sc L f cd cl)) (noteFrame (.ref e) (envG nm sc L f cd cl)) (fun _ s₂ => wpAny (model prog w) (A.deeper (envG nm sc L f cd cl)) (setFlight (.ref e) none) (fun _ s₃ => wpAny (model prog w) (A.deeper (envG nm sc L f cd cl)) (handleBy (.ref e) (envG nm sc L f cd cl) [.ExceptHandler (some (.Name (Str.ofString "ZeroDivisionError") np)) none (b₀ :: suite) pos]) Q E s₃) E s₂) E ⟨hp, gs, dr, tk, os⟩ := by
  have hf : (envG nm sc L f cd cl).frame = some L := by rw [envG_eq]
  have stay : ∀ {h' : Heap}, (hideAll h [L]).StaysIn h' → h₀.StaysIn h' := fun q b o e => q b o (hideAll_get [L] (F.keep b o e) fun z => absurd (Heap.lt_size e) (Nat.not_lt.mpr (by rw [List.mem_singleton.mp z]; exact F.above)))
  have ledger : ∀ {h' : Heap}, (hideAll h [L]).StaysIn h' → News h₀ L h' news := fun q p hp => ⟨q _ _ (hideAll_get [L] (N p hp).1 fun z => (N p hp).2.1 (List.mem_singleton.mp z)), (N p hp).2⟩
  refine wpAny_looks_onW (s := ⟨hp, gs, dr, tk, os⟩) (Around.frames_deeper hfr) hf hfl fun h₄ hheld₄ sm₄ => ?_
  refine wpAny_landsW hheld₄ fun h₅ hheld sm₅ => ?_
  have up5 := (hup.trans sm₄).trans sm₅
  have F₅ := F.of_stays (stay hheld.1) up5
  obtain ⟨ob, hob, hobc⟩ := hheld.there
  refine wpAny_handleBy_builtin (X := "ZeroDivisionError") (T := "ZeroDivisionError") (b := true) (by rw [isSubtype_type]; kernel_rfl) (by rw [isSubtype_type]; kernel_rfl) (by rw [isSubtype_type]; kernel_rfl) (nm_blt F₅ G hpl hk (by decide) (by kernel_rfl) (by boot_fast) (by decide) ⟨rfl, ⟨ob, hob, hobc⟩, ?_⟩)
  rw [if_pos rfl]
  refine lands_againW hheld fun h₆ hfl₆ sm₆ => ?_
  exact k h₆ _ (F.of_stays (stay hfl₆.1) (up5.trans sm₆)) (ledger hfl₆.1)
theorem funFrames_one {h : Heap} {h₀ : Heap} {L f : Addr} {m : Str → Option Value} {nm : Str} {sc : Scope} {cd : Value} {cl : List (Str × Addr)} (F : Fr h₀ L h m) (hpl : plainS sc = true) : h.FunFrames (hideAll h [L]) [envG nm sc L f cd cl] := by
  refine ⟨?_, ?_, trivial⟩
  · rw [envG_eq]
    show sc.kind ≠ .module
    rw [kind_S hpl]
    decide
  · obtain ⟨o, es, ep, e, d, _⟩ := F.ns
    exact ⟨L, o, by rw [envG_eq], hideAll_none _ (.head _), e, fun vs q => by rw [d] at q; cases q⟩
end Mine
end
section
local macro_rules | `(tactic| walk_at "zz") => `(tactic| fail)
theorem Mine.freshT49 : True := by
  w_top off
  trivial
namespace Mine
variable {w : World} {mg mb : Str → Option Value}
theorem f_bind {M : Model} {A : Around} {env : Env} {x : Str} {v : Value} {Q : Unit → Shared → Prop} {E : Value → Shared → Prop} {s : Shared} (h : wpAny M A (storeName env x v) Q E s) : wpAny M A (bindName env x v) Q E s := by
  unfold bindName
  exact wpAny_bind (wpAny_holding (wpAny_point (wpAny_bind (wpAny_mono h (fun _ s h => wpAny_point h) fun _ _ x => x))))
theorem f_swap3 {prog : Program} {A : Around} {E : Value → Shared → Prop} {hp : Heap} {gs : Array GenState} {dr : Drawn} {tk : Nat} {os : OsState} {h₀ : Heap} {L : Addr} {m : Str → Option Value} {news : List (Addr × Obj)} {env : Env} {a b c : Str} {x y z : Value} {t : Addr} {n : Nat} {Q : Unit → Shared → Prop} (F : Fr h₀ L hp m) (N : News h₀ L hp news) (ht : IsTup hp t #[x, y, z]) (hh : A.handled = none) (hn : n = 3)
    (h : ∀ h', Fr h₀ L h' m → News h₀ L h' news → wpAny (model prog w) A (storeName env c z) (fun _ s₁ => wpAny (model prog w) A (storeName env b y) (fun _ s₂ => wpAny (model prog w) A (storeName env a x) Q E s₂) E s₁) E ⟨h', gs, dr, tk, os⟩) :
    wpAny (model prog w) A (unpackItems (.ref t) n none) (fun items s₂ => wpAny (model prog w) A (assignInOrder ([a, b, c].reverse.map fun n => bindName env n) items.reverse) Q E s₂) E ⟨hp, gs, dr, tk, os⟩ := by
  refine unpackItemsN_ (s := ⟨hp, gs, dr, tk, os⟩) F N ht hh hn fun h' F' N' => ?_
  refine assignInOrder_cons (f_bind (wpAny_mono (h h' F' N') (fun _ s₁ h₁ => ?_) fun _ _ x => x))
  refine assignInOrder_cons (f_bind (wpAny_mono h₁ (fun _ s₂ h₂ => ?_) fun _ _ x => x))
  refine assignInOrder_cons (f_bind ?_)
  exact wpAny_mono h₂ (fun _ s₃ h₃ => assignInOrder_nil h₃) fun _ _ x => x
theorem tup_led {h h₀ : Heap} {L r : Addr} {m : Str → Option Value} {its : Array Value} (F : Fr h₀ L h m) (R : IsTup h r its) : ∃ X : List (Addr × Obj), News h₀ L h X ∧ ∀ h' m', Fr h₀ L h' m' → News h₀ L h' X → IsTup h' r its := by
  obtain ⟨o, e, c, n, d⟩ := R
  cases q : h₀.get? r with
  | some o' =>
    have eo : o' = o := by have := F.keep _ _ q; rw [e] at this; exact (Option.some.inj this).symm
    subst eo
    exact ⟨[], (fun _ hp => nomatch hp), fun h' m' F' _ => ⟨o', F'.keep _ _ q, c, n, d⟩⟩
  | none =>
    refine ⟨[(r, o)], fun p hp => ?_, fun h' m' _ N' => ⟨o, (N' _ (.head _)).1, c, n, d⟩⟩
    rw [List.mem_singleton.mp hp]
    refine ⟨e, fun z => ?_, q⟩
    obtain ⟨oL, es, ep, e', d', _⟩ := F.ns
    rw [← z, e] at e'
    cases e'
    rw [d] at d'
    cases d'
theorem f_neT {prog : Program} {A : Around} {E : Value → Shared → Prop} {hp : Heap} {gs : Array GenState} {dr : Drawn} {tk : Nat} {os : OsState} {Q : Value → Shared → Prop} {T U : Addr} {a b c d : Int} {t1 t2 t3 t4 : Tok} (hT : IsTup hp T #[.int a t1, .int b t2]) (hU : hp.get? U = some (tupOf #[.int c t3, .int d t4])) (hu : A.units < cLine) (h : Q (.bool (!((a == c) && (b == d)))) ⟨hp, gs, dr, tk, os⟩) :
    wpAny (model prog w) A (compareOp .NotEq (.ref T) (.ref U)) Q E ⟨hp, gs, dr, tk, os⟩ := by
  have hT' : hp.IsTuple T #[.int a t1, .int b t2] := let ⟨o, e, c, n, d⟩ := hT; ⟨o, e, c, n, d⟩
  refine PySem.SeqAt.RcNeAt.tuples (s := ⟨hp, gs, dr, tk, os⟩) (e := fun j => if j = 0 then a == c else b == d) hT' (isTup2 hU) hu (fun j h1 h2 => ?_) prog w E Q ?_
  · match j, h1, h2 with
    | 0, _, _ => exact PySem.SeqAt.EqAt.int_int a t1 c t3
    | 1, _, _ => exact PySem.SeqAt.EqAt.int_int b t2 d t4
    | n + 2, h1, _ => exact absurd h1 (by show ¬ (n + 2 < 2); omega)
  · have e : (!((List.range (min 2 2)).all (fun j => if j = 0 then a == c else b == d) && (2 == 2))) = (!((a == c) && (b == d))) := by
      generalize (a == c) = x
      generalize (b == d) = y
      cases x <;> cases y <;> rfl
    rw [← e] at h
    exact h
theorem bits_far {b : Int} (h : b ≠ 0) : 133 ≤ Builtin.Int.intBits (b * 10 ^ 40) := by
  rcases Nat.lt_or_ge (Builtin.Int.intBits (b * 10 ^ 40)) 133 with q | q
  · exfalso
    have := intBits_le_iff.mp (Nat.le_of_lt_succ q)
    rw [Int.natAbs_mul] at this
    have h1 : 1 ≤ b.natAbs := by omega
    have h2 : (10 ^ 40 : Int).natAbs = 10 ^ 40 := by decide
    rw [h2] at this
    have h3 : (2 : Nat) ^ 132 ≤ 10 ^ 40 := by decide
    have h4 : 1 * 10 ^ 40 ≤ b.natAbs * 10 ^ 40 := Nat.mul_le_mul_right _ h1
    omega
  · exact q
noncomputable def lawE (w : World) : {b : List Stmt // forBody ((lawB w).1.getD 13 (.Pass default)) = b} := ⟨[_, _, _, _, _, _, _, _, _, _, _], by with_unfolding_all rfl⟩
theorem law_div {prog : Program} {A : Around} {E : Value → Shared → Prop} {hp h : Heap} {gs : Array GenState} {dr : Drawn} {tk : Nat} {os : OsState} {L f cp cq : Addr} {cd : Value} {nm : Str} {rest tb : List (Addr × Obj)} {op oq : Obj} {l : List (Str × Value)} {p q k : Nat} {tp tq tkk tf tb0 tt t2 : Tok} {b Fv tv by0 : Int} {Q : Flow → Shared → Prop} (G : Gl w mg mb hp) (F : Fr hp L h (lk l)) (N : News hp L h (rest ++ tb))
    (hcp : (cp, op) ∈ rest ++ tb) (hcq : (cq, oq) ∈ rest ++ tb) (dP : op.data = .cell (some (.int (p : Nat) tp))) (dQ : oq.data = .cell (some (.int (q : Nat) tq))) (T : TbOk w hp L tb) (hne : ∀ z ∈ rest, z.1 ≠ 75 ∧ z.1 ≠ 82)
    (lk0 : lk l (Str.ofString "k") = some (.int (k : Nat) tkk)) (lfo : lk l (Str.ofString "four") = some (.int Fv tf)) (lby : lk l (Str.ofString "by") = some (.int by0 tb0)) (lto : lk l (Str.ofString "told") = some (.int tv tt)) (lfar : lk l (Str.ofString "far") = some (.int (10 ^ 40) t2))
    (hby : by0 = b * 10 ^ 40) (sb : Sm 100 b) (sF : Sm 406 Fv) (hF : Fv = b * (if (p + q) % 2 = 1 then tv else -tv)) (hh : A.handled = none) (hroom : A.depth + 90 < recursionLimit) (hu : A.units + 100 < cLine) (hfr : A.frames = some [])
    (hK : ∀ (h' : Heap) (tk' : Nat) (l' : List (Str × Value)) (tb' : List (Addr × Obj)), Fr hp L h' (lk l') → News hp L h' (rest ++ tb') → TbOk w hp L tb' → (∀ y, (y == Str.ofString "more") = false → (y == Str.ofString "quotient") = false → (y == Str.ofString "four") = false → (y == Str.ofString "answer") = false → lk l' y = lk l y) → Q .next ⟨h', gs, dr, tk', os⟩) :
    wpAny (model prog w) (A.deeper (envG nm (lawS w).1 L f cd [("q", cq), ("p", cp)])) (execs ((lawE w).1.drop 6) (envG nm (lawS w).1 L f cd [("q", cq), ("p", cp)])) Q E ⟨h, gs, dr, tk, os⟩ := by
  unfold lawE
  dsimp only [List.drop_succ_cons, List.drop_zero]
  have hh' : (A.deeper (envG nm (lawS w).1 L f cd [("q", cq), ("p", cp)])).handled = none := hh
  have X₀ := G.X
  iterate 2 walk1
  refine wpAny_mono (Q := fun v s' => ∃ t tk' h', v = Value.int (if 0 < by0 then by0 - 1 else min (by0 + 1) 0) t ∧ Fr hp L h' (lk l) ∧ News hp L h' (rest ++ tb) ∧ s' = ⟨h', gs, dr, tk', os⟩) ?xmore (fun v s' hv => ?_) (fun _ _ x => x)
  case xmore =>
    iterate 6 walk1
    by_cases c : 0 < by0
    · rw [if_pos (by simpa using c)]
      iterate 4 walk1
      exact ⟨_, _, h, by rw [if_pos c]; rfl, F, N, rfl⟩
    · rw [if_neg (by simpa using c)]
      iterate 11 walk1
      refine min_two_ints (s := ⟨h, gs, dr, _, os⟩) hh' fun h' tk' k' => ?_
      have F' := F.keeps k'
      have N' := news_keep N k'
      by_cases c2 : ((0 : Nat) : Int) < by0 + ((1 : Nat) : Int)
      · rw [if_pos c2]
        exact ⟨_, _, h', by rw [if_neg c, show min (by0 + 1) 0 = ((0 : Nat) : Int) by omega], F', N', rfl⟩
      · rw [if_neg c2]
        exact ⟨_, _, h', by rw [if_neg c, show min (by0 + 1) 0 = by0 + ((1 : Nat) : Int) by omega], F', N', rfl⟩
  obtain ⟨tm, tk25, h1, rfl, F1, N1, rfl⟩ := hv
  clear F N
  iterate 3 walk1
  rename_i h2 tk2 F2 N2
  clear F1 N1
  refine wpAny_mono (Q := fun v s' => ∃ t tk', v = Value.int (if (p + q) % 2 = 1 then tv else -tv) t ∧ s' = ⟨h2, gs, dr, tk', os⟩) ?xquo (fun v s' hv => ?_) (fun _ _ x => x)
  case xquo =>
    iterate 8 walk1
    have epq : ((p : Nat) : Int) + ((q : Nat) : Int) = ((p + q : Nat) : Int) := by omega
    rw [epq]
    refine f_modN (by decide) (by decide) ?_
    iterate 3 walk1
    by_cases c : (p + q) % 2 = 1
    · rw [if_pos (by rw [c]; rfl)]
      iterate 1 walk1
      exact ⟨_, _, by rw [if_pos c], rfl⟩
    · rw [if_neg (by intro e; have e' : (((p + q) % 2 : Nat) : Int) = ((1 : Nat) : Int) := by simpa using e
                     exact c (by omega))]
      iterate 3 walk1
      exact ⟨_, _, by rw [if_neg c], rfl⟩
  obtain ⟨tqu, tk3, rfl, rfl⟩ := hv
  obtain ⟨m0, hm0⟩ : ∃ x, x = if 0 < by0 then by0 - 1 else min (by0 + 1) 0 := ⟨_, rfl⟩
  obtain ⟨q0, hq0⟩ : ∃ x, x = if (p + q) % 2 = 1 then tv else -tv := ⟨_, rfl⟩
  rw [← hm0] at F2
  rw [← hq0] at hF ⊢
  iterate 3 walk1
  rename_i h3 tk4 F3 N3
  clear F2 N2
  refine wpAny_mono (Q := fun fl s' => fl = .next ∧ ∃ (h' : Heap) (tk' : Nat) (l' : List (Str × Value)) (t1 t2 t3 : Tok), s' = ⟨h', gs, dr, tk', os⟩ ∧ Fr hp L h' (lk l') ∧ News hp L h' (rest ++ tb) ∧ lk l' (Str.ofString "four") = some (.int (if k = 1 then -Fv else Fv) t1) ∧ lk l' (Str.ofString "more") = some (.int (if k = 1 then 0 else m0) t2) ∧ lk l' (Str.ofString "quotient") = some (.int (if k = 1 then -q0 else q0) t3) ∧ (∀ y, (y == Str.ofString "more") = false → (y == Str.ofString "quotient") = false → (y == Str.ofString "four") = false → lk l' y = lk l y)) ?xif (fun fl s' hv => ?_) (fun _ _ x => x)
  case xif =>
    iterate 6 walk1
    by_cases c : k = 1
    · rw [if_pos (by subst c; rfl)]
      refine ex_cons (Assign_Tuple_swapped (names := [Str.ofString "four", Str.ofString "more", Str.ofString "quotient"]) ?_ (hs := by kernel_rfl) (hw := by kernel_rfl))
      iterate 13 walk1
      rename_i X h5 F5 N5 q5
      clear F3 N3
      refine f_swap3 F5 N5 ⟨_, (N5 _ (.head _)).1, rfl, 0, rfl⟩ hh' rfl fun h6 F6 N6 => ?_
      replace N6 : News hp L h6 (rest ++ tb) := fun z hz => N6 z (.tail _ hz)
      clear F5 N5 q5
      iterate 5 walk1
      rename_i h7 tk7 F7 N7 h8 tk8 F8 N8 h9 tk9 F9 N9
      simp only [if_pos c]
      exact ⟨trivial, h9, _, _, _, _, _, rfl, F9, N9, lk_hit, lk_miss (by kernel_rfl) lk_hit, lk_miss (by kernel_rfl) (lk_miss (by kernel_rfl) lk_hit), fun y a b c => lk_miss c (lk_miss a (lk_miss b (lk_miss b (lk_miss a rfl))))⟩
    · rw [if_neg (by intro e; have e' : (k : Int) = 1 := by simpa using e
                     exact c (by omega))]
      iterate 1 walk1
      simp only [if_neg c]
      exact ⟨trivial, h3, _, _, _, _, _, rfl, F3, N3, lk_miss (by kernel_rfl) (lk_miss (by kernel_rfl) lfo), lk_miss (by kernel_rfl) lk_hit, lk_hit, fun y a b c => lk_miss b (lk_miss a rfl)⟩
  obtain ⟨rfl, h4, tk5, l4, u1, u2, u3, rfl, F4, N4, l4f, l4m, l4q, same4⟩ := hv
  clear F3 N3
  obtain ⟨Fx, hFx⟩ : ∃ x, x = if k = 1 then -Fv else Fv := ⟨_, rfl⟩
  obtain ⟨Mx, hMx⟩ : ∃ x, x = if k = 1 then 0 else m0 := ⟨_, rfl⟩
  obtain ⟨Qx, hQx⟩ : ∃ x, x = if k = 1 then -q0 else q0 := ⟨_, rfl⟩
  rw [← hFx] at l4f
  rw [← hMx] at l4m
  rw [← hQx] at l4q
  have l4far := (same4 (Str.ofString "far") (by kernel_rfl) (by kernel_rfl) (by kernel_rfl)).trans lfar
  have l4by := (same4 (Str.ofString "by") (by kernel_rfl) (by kernel_rfl) (by kernel_rfl)).trans lby
  have hdiv : by0 ≠ 0 → (Fx * 10 ^ 40 + Mx).fdiv by0 = Qx ∧ (Fx * 10 ^ 40 + Mx).fmod by0 = Mx := fun hb0 => by
    have hb : b ≠ 0 := fun e => hb0 (by rw [hby, e, Int.zero_mul])
    rw [hFx, hMx, hQx]
    by_cases c : k = 1
    · rw [if_pos c, if_pos c, if_pos c, hby]
      exact div_tells0 hF hb
    · rw [if_neg c, if_neg c, if_neg c]
      have := div_tells (F := Fv) (q := q0) (b := b) (m := m0) hF hb (by rw [hm0, hby])
      rw [hby]
      exact this
  have sfar : Sm 133 (10 ^ 40 : Int) := by unfold Sm; decide
  have sby : Sm 233 by0 := by rw [hby]; exact sb.mul sfar
  have sFx : Sm 406 Fx := by
    rw [hFx]
    split
    · exact sF.neg
    · exact sF
  have sMx : Sm 234 Mx := by
    have s1 : Sm 0 (0 : Int) := by unfold Sm; decide
    have hmn : m0.natAbs ≤ by0.natAbs + 1 := by
      rw [hm0]
      split <;> omega
    rw [hMx]
    split
    · exact s1.le (by decide)
    · unfold Sm at sby ⊢
      have : (2 : Nat) ^ 234 = 2 ^ 233 + 2 ^ 233 := by decide
      omega
  iterate 2 walk1
  refine wpAny_Try_except ?_
  iterate 10 walk1
  refine f_mul sFx sfar (by decide) (by decide) ?_
  iterate 6 walk1
  by_cases hb0 : by0 = 0
  · rw [hb0]
    refine int_divmod_zero (s := ⟨h4, gs, dr, _, os⟩) (base := hideAll h4 [L]) (outer := [envG nm (lawS w).1 L f cd [("q", cq), ("p", cp)]]) (G.keeps F4.keep) hh' (room0 hroom) (Around.frames_deeper hfr) (fun b o e => of_hideAll _ e) (funFrames_one F4 (by kernel_rfl)) fun e a0 h5 tk6 hfl hup => ?_
    refine f_caught (gs := gs) (dr := dr) (os := os) hfr G F4 N4 (by kernel_rfl) (by kernel_rfl) hfl hup fun h6 E' F6 N6 => ?_
    clear hfl hup F4 N4
    iterate 4 walk1
    rename_i h7 tk7 F7 N7
    clear F6 N6
    iterate 13 walk1
    rw [if_neg (by rw [hb0]; decide)]
    iterate 1 walk1
    refine PySem.SeqAt.RcNeAt.none_none prog w _ _ ?_
    iterate 5 walk1
    exact hK h7 _ _ tb F7 N7 T fun y y1 y2 y3 y4 => (lk_miss y4 rfl).trans (same4 y y1 y2 y3)
  · refine int_divmod_spec (s := ⟨h4, gs, dr, _, os⟩) (G.keeps F4.keep) hb0 (by unfold Sm at sby; exact Nat.lt_trans sby (by decide)) ?hbig (T.t _ _ F4 fun z hz => N4 z (List.mem_append_right _ hz)) hh' (room1 hroom) fun r h5 tk6 v1 v2 k5 T5 R5 => ?_
    case hbig =>
      have hb : b ≠ 0 := fun e => hb0 (by rw [hby, e, Int.zero_mul])
      have h1 := bits_far hb
      rw [← hby] at h1
      have s1 : Sm 540 (Fx * 10 ^ 40 + Mx) := ((sFx.mul sfar).add (sMx.le (by decide)))
      unfold Sm at s1
      exact Nat.lt_of_lt_of_le s1 (Nat.pow_le_pow_right (by decide) (by omega))
    obtain ⟨e1, e2⟩ := hdiv hb0
    rw [e1, e2] at R5
    obtain ⟨F5, tb', T', N5⟩ := T.next F4 N4 hne k5 T5
    obtain ⟨X, NX, hX⟩ := tup_led F5 R5
    clear F4 N4 k5 T5 R5
    replace N5 : News hp L h5 (X ++ (rest ++ tb')) := fun z hz => by
      rcases List.mem_append.mp hz with hz | hz
      · exact NX z hz
      · exact N5 z hz
    clear NX
    dsimp only
    iterate 3 walk1
    rename_i h7 tk7 F7 N7
    clear F5 N5
    iterate 12 walk1
    rw [if_pos (by simp [hb0])]
    iterate 7 walk1
    rename_i U h8 F8 N8 q8
    clear F7 N7
    refine f_neT (hX _ _ F8 fun z hz => N8 z (.tail _ (List.mem_append_left _ hz))) (N8 (U, _) (.head _)).1 (by show A.units + 3 < cLine; omega) ?_
    have eb : (!((Qx == Qx) && (Mx == Mx))) = false := by simp
    rw [eb]
    replace N8 : News hp L h8 (rest ++ tb') := fun z hz => N8 z (.tail _ (List.mem_append_right _ hz))
    iterate 5 walk1
    exact hK h8 _ _ tb' F8 N8 T' fun y y1 y2 y3 y4 => (lk_miss y4 rfl).trans (same4 y y1 y2 y3)
end Mine
end
section
theorem Mine.freshT47 : True := by
  w_top off
  trivial
namespace Mine
variable {w : World} {mg mb : Str → Option Value}
def restF (p q j : Nat) : List Nat := (List.range j).filter fun x => x != p && x != q
theorem restF_succ (p q j : Nat) : restF p q (j + 1) = restF p q j ++ (if j ≠ p ∧ j ≠ q then [j] else []) := by
  unfold restF
  rw [List.range_succ, List.filter_append]
  by_cases c : j ≠ p ∧ j ≠ q
  · rw [if_pos c]; simp [c.1, c.2]
  · rw [if_neg c]
    have : (j != p && j != q) = false := by
      rw [Bool.and_eq_false_iff, bne_eq_false_iff_eq, bne_eq_false_iff_eq]
      omega
    simp [this]
theorem sm_four (ns : List Int) (p q x y : Nat) : Sm 202 (fourW (wAt ns 15) p q x y) :=
  ((((sm100 ns p q).mul (sm100 ns x y)).sub ((sm100 ns p x).mul (sm100 ns q y))).add (((sm100 ns p y).mul (sm100 ns q x)).le (by decide)))
theorem law_last {prog : Program} {A : Around} {R : Result → Shared → Prop} {hp h : Heap} {gs : Array GenState} {dr : Drawn} {tk : Nat} {os : OsState} {L f cp cq S : Addr} {cd v : Value} {nm : Str} {ns : List Int} {own tb : List (Addr × Obj)} {op oq : Obj} {vp vq : Option Value} {l : List (Str × Value)} {t1 t2 : Tok} {way : List (Nat × Nat)} (G : Gl w mg mb hp) (F : Fr hp L h (lk l)) (N : News hp L h ((cp, op) :: (cq, oq) :: (own ++ tb)))
    (hop : op.data = .cell vp) (hoq : oq.data = .cell vq) (T : TbOk w hp L tb) (hmat : ∃ rows eS, (S, listOf rows.toArray eS) ∈ own ∧ MatB own rows (wAt ns 15)) (hwm : way ∈ waysL) (hwk : WayK own v way) (hsep : ∀ z ∈ own, (z.1 ≠ cp ∧ z.1 ≠ cq) ∧ z.1 ≠ 75 ∧ z.1 ≠ 82) (hcc : cp ≠ cq) (hp75 : cp ≠ 75 ∧ cp ≠ 82) (hq75 : cq ≠ 75 ∧ cq ≠ 82)
    (lworths : lk l (Str.ofString "worths") = some (.ref S)) (lway : lk l (Str.ofString "way") = some v) (hto : lk l (Str.ofString "told") = some (.int (toldW (wAt ns 15)) t1)) (hfar : lk l (Str.ofString "far") = some (.int (10 ^ 40) t2)) (hh : A.handled = none) (hroom : A.depth + 90 < recursionLimit) (hu : A.units + 100 < cLine) (hfr : A.frames = some [])
    (hK : ∀ (h' : Heap) (tk' : Nat) (l' : List (Str × Value)), Fr hp L h' (lk l') → Tabs w h' → R (.ok (.ret (.bool true))) ⟨h', gs, dr, tk', os⟩) :
    wpAny (model prog w) (A.deeper (envG nm (lawS w).1 L f cd [("q", cq), ("p", cp)])) (execs ((lawB w).1.drop 13) (envG nm (lawS w).1 L f cd [("q", cq), ("p", cp)])) (Rt R) (Lv (model prog w) A (envG nm (lawS w).1 L f cd [("q", cq), ("p", cp)]) R) ⟨h, gs, dr, tk, os⟩ := by
  rw [show (lawB w).1.drop 13 = [_, _] from rfl]
  have hh' : (A.deeper (envG nm (lawS w).1 L f cd [("q", cq), ("p", cp)])).handled = none := hh
  have X₀ := G.X
  obtain ⟨lw, us, ew, rfl, hlwm, hul, hus⟩ := hwk
  have hwl := ways_len way hwm
  refine ex_cons (f_for (by intro _; rfl) ?_)
  iterate 6 walk1
  refine f_range1 F N (by decide) (fun I h1 tk1 F1 N1 q1 => ?_) fun R s hR => hR
  have hPI : cp ≠ I := Nat.ne_of_lt (q1 (cp, op) (.head _))
  have hQI : cq ≠ I := Nat.ne_of_lt (q1 (cq, oq) (.tail _ (.head _)))
  have hOI : ∀ p ∈ own, p.1 ≠ I := fun p hp => Nat.ne_of_lt (q1 p (.tail _ (.tail _ (List.mem_append_left _ hp))))
  have hI75 : I ≠ 75 ∧ I ≠ 82 := by
    obtain ⟨ps, hps⟩ := T.p
    obtain ⟨rs, hrs⟩ := T.r
    exact ⟨Nat.ne_of_gt (q1 _ (.tail _ (.tail _ (List.mem_append_right _ hps)))), Nat.ne_of_gt (q1 _ (.tail _ (.tail _ (List.mem_append_right _ hrs))))⟩
  clear F N q1
  refine loop_ruleP lv_passes (fun k s' => Ex8 fun (h' : Heap) (tk' : Nat) (l' : List (Str × Value)) (op oq : Obj) (vp vq : Option Value) (tb : List (Addr × Obj)) => All10 (s' = ⟨h', gs, dr, tk', os⟩) (Fr hp L h' (lk l')) (News hp L h' ((I, riObj k (3 - k)) :: (cp, op) :: (cq, oq) :: (own ++ tb))) (op.data = .cell vp) (oq.data = .cell vq) (TbOk w hp L tb) (lk l' (Str.ofString "worths") = some (.ref S)) (lk l' (Str.ofString "way") = some (.ref lw)) (lk l' (Str.ofString "told") = some (.int (toldW (wAt ns 15)) t1)) (lk l' (Str.ofString "far") = some (.int (10 ^ 40) t2))) 3 ?h0 ?turn ?done
  case h0 => exact ⟨h1, _, l, op, oq, _, _, tb, rfl, F1, N1, hop, hoq, T, lworths, lway, hto, hfar⟩
  case done =>
    rintro Po Xo hPo _ ⟨h', tk', l', op, oq, vp, vq, tb, rfl, F', N', hP, hQ, T', lS, lW, lT, lF⟩
    have hnT := T'.ne N' (fun z hz => .tail _ (.tail _ (.tail _ (List.mem_append_right _ hz)))) (.head _) hI75.1 hI75.2 ri_noCode
    refine next_range_end hh' (x := 3) F' N' (fun p hp => ?_) fun h2 F2 N2 => ⟨rfl, hPo _ ?_⟩
    · rcases List.mem_cons.mp hp with rfl | hp
      · exact hPI
      rcases List.mem_cons.mp hp with rfl | hp
      · exact hQI
      rcases List.mem_append.mp hp with hp | hp
      · exact hOI p hp
      · exact hnT p hp
    iterate 5 walk1
    exact hK h2 _ l' F2 (T'.t _ _ F2 fun z hz => N2 z (.tail _ (.tail _ (List.mem_append_right _ hz))))
  case turn =>
    clear F1 N1 hop hoq T lworths lway hto hfar
    rintro Po Xo hXo k _ hk hPo ⟨h', tk', l', op, oq, vp, vq, tb, rfl, F', N', hP, hQ, T', lS, lW, lT, lF⟩
    have upt : ∀ {a b c : Addr × Obj}, ∀ z ∈ tb, z ∈ a :: b :: c :: (own ++ tb) := fun z hz => .tail _ (.tail _ (.tail _ (List.mem_append_right _ hz)))
    have hnT := T'.ne N' upt (.head _) hI75.1 hI75.2 ri_noCode
    have hnP := T'.ne N' upt (.tail _ (.head _)) hp75.1 hp75.2 (cell_noCode hP)
    have hnQ := T'.ne N' upt (.tail _ (.tail _ (.head _))) hq75.1 hq75.2 (cell_noCode hQ)
    refine next_range F' N' (fun p hp => ?_) (by omega) fun h2 tkk tk2 F2 N2 => ⟨_, rfl, letGo_name ?_⟩
    · rcases List.mem_cons.mp hp with rfl | hp
      · exact hPI
      rcases List.mem_cons.mp hp with rfl | hp
      · exact hQI
      rcases List.mem_append.mp hp with hp | hp
      · exact hOI p hp
      · exact hnT p hp
    clear F' N'
    iterate 7 walk1
    rename_i h3 tk3 F3 N3
    clear F2 N2
    obtain ⟨⟨p, q⟩, hpq⟩ : ∃ r, way[k]? = some r := ⟨_, List.getElem?_eq_getElem (by omega)⟩
    obtain ⟨T0, ta, tb0, hT, hTm⟩ := hus k (p, q) hpq
    obtain ⟨hpq1, hq6⟩ := ways_pts way hwm (p, q) (List.mem_of_getElem? hpq)
    dsimp only at hpq1 hq6
    have up : ∀ {a b c : Addr × Obj} {z : Addr × Obj}, z ∈ own → z ∈ a :: b :: c :: (own ++ tb) := fun hz => .tail _ (.tail _ (.tail _ (List.mem_append_left _ hz)))
    refine at_mem N3 (up hlwm) (by omega) hT ?_
    have hTT : IsTup h3 T0 #[Value.int (p : Nat) ta, Value.int (q : Nat) tb0] := ⟨_, (N3 _ (up hTm)).1, rfl, 0, rfl⟩
    refine f_unpack2 F3 N3 hTT hh' fun h4 F4 N4 => ?_
    have hneP : ∀ z ∈ (cq, oq) :: (own ++ tb), z.1 ≠ cp := fun z hz => by
      rcases List.mem_cons.mp hz with rfl | hz
      · exact hcc.symm
      rcases List.mem_append.mp hz with hz | hz
      · exact (hsep z hz).1.1
      · exact hnP z hz
    have hneQ : ∀ z ∈ own ++ tb, z.1 ≠ cq := fun z hz => by
      rcases List.mem_append.mp hz with hz | hz
      · exact (hsep z hz).1.2
      · exact hnQ z hz
    refine' st_cell F4 N4 (by kernel_rfl) (by kernel_rfl) (by rfl) ?U hP ?_
    case U => exact .tail hPI.symm (.head hneP)
    intro h5 op2 F5 N5 dP
    refine' st_cell F5 N5 (by kernel_rfl) (by kernel_rfl) (by rfl) ?U hQ ?_
    case U => exact .tail hQI.symm (.tail hcc (.head hneQ))
    intro h6 oq2 F6 N6 dQ
    clear F3 N3 F4 N4 F5 N5 hTT
    dsimp only
    iterate 3 walk1
    refine f_comp [("q", cq), ("p", cp)] (by intro _; rfl) (by kernel_rfl) (by rfl) (by decide) ?_
    iterate 6 walk1
    refine f_range1 F6 N6 (by decide) (fun J h7 tk7 F7 N7 q7 => ?_) fun R s hR => hR
    have hPJ : cp ≠ J := Nat.ne_of_lt (q7 (cp, op2) (.tail _ (.head _)))
    have hQJ : cq ≠ J := Nat.ne_of_lt (q7 (cq, oq2) (.tail _ (.tail _ (.head _))))
    have hcP : (hideAll h7 [J]).IsCell cp (some (.int (p : Nat) ta)) := ⟨op2, hideAll_get [J] (N7 (cp, op2) (.tail _ (.tail _ (.head _)))).1 fun z => hPJ (List.mem_singleton.mp z), dP⟩
    have hcQ : (hideAll h7 [J]).IsCell cq (some (.int (q : Nat) tb0)) := ⟨oq2, hideAll_get [J] (N7 (cq, oq2) (.tail _ (.tail _ (.tail _ (.head _))))).1 fun z => hQJ (List.mem_singleton.mp z), dQ⟩
    unfold CompGo
    refine comp_goP (oI := riObj 0 6) (by decide) (by rfl) (N7 _ (.head _)).1 ri_self 6 (fun D C j s' => All3 (J < D) (h7.get? C = none) (Ex5 fun (h' : Heap) (tk' : Nat) (l : List (Str × Value)) (acc : List Value) (e2 : Nat) => All4 (s' = ⟨h', gs, dr, tk', os⟩) (Fr (hideAll h7 [J]) C h' (lk l)) (News (hideAll h7 [J]) C h' [(D, listOf acc.toArray e2), (J, riObj j (6 - j))]) (NatsAre acc (restF p q j)))) ?k0 ?kturn ?kdone
    case k0 =>
      intro D C h' tk' F' N' lID lDC eD eC
      exact ⟨lID, eC, h', tk', [], [], 0, rfl, F', N', .nil⟩
    case kturn =>
      rintro E' D C K j _ hj hKK ⟨lID, eC, h', tk', l2, acc, e2, rfl, F', N', hacc⟩
      unfold CompTurn
      refine next_range F' (news := [(D, listOf acc.toArray e2)]) (fun p hp => N' p (mem_swap hp)) (ne_one (Nat.ne_of_gt lID)) (by omega) fun h8 tj tk8 F8 N8 => ⟨_, rfl, letGo_name ?_⟩
      refine asK F8 N8 (by kernel_rfl) (by kernel_rfl) fun h9 tk9 F9 N9 => cp_one ?_
      clear F' N' F8 N8
      have keep2 : ∀ p ∈ [(D, listOf acc.toArray e2), (J, riObj (j + 1) (6 - j - 1))], p ∈ [(J, riObj (j + 1) (6 - j - 1)), (D, listOf acc.toArray e2)] := fun p hp => by
        rcases List.mem_cons.mp hp with rfl | hp
        · exact .tail _ (.head _)
        · rw [List.mem_singleton.mp hp]; exact .head _
      iterate 7 walk1
      rotate_left
      · rename_i hc1
        rw [if_neg Bool.false_ne_true]
        refine hKK _ ⟨lID, eC, h9, _, _, acc, e2, rfl, F9, fun p hp => N9 p (keep2 p hp), ?_⟩
        rw [restF_succ, if_neg (by omega), List.append_nil]
        exact hacc
      rename_i hc1
      iterate 7 walk1
      rotate_left
      · rename_i hc2
        rw [if_neg Bool.false_ne_true]
        refine hKK _ ⟨lID, eC, h9, _, _, acc, e2, rfl, F9, fun p hp => N9 p (keep2 p hp), ?_⟩
        rw [restF_succ, if_neg (by omega), List.append_nil]
        exact hacc
      rename_i hc2
      iterate 1 walk1
      rw [if_pos rfl]
      iterate 1 walk1
      have hal : acc.length ≤ 6 := by
        rw [hacc.length, List.length_map]
        exact Nat.le_trans (List.length_filter_le _ _) (by rw [List.length_range]; omega)
      refine f_append F9 N9 (.tail (Nat.ne_of_lt lID) (.head fun _ hp => nomatch hp)) (fun h10 F10 N10 => ?_) (by rw [List.size_toArray]; exact Nat.le_trans hal (by decide))
      have e10 : acc.toArray.push (Value.int (j : Nat) tj) = (acc ++ [Value.int (j : Nat) tj]).toArray := by simp
      rw [e10] at N10
      refine hKK _ ⟨lID, eC, h10, _, _, _, _, rfl, F10, fun p hp => N10 p (mem_swap hp), ?_⟩
      rw [restF_succ, if_pos (by omega)]
      show IntsAre _ ((restF p q j ++ [j]).map Int.ofNat)
      rw [List.map_append]
      exact ints_snoc hacc
    case kdone =>
      rintro E' D C K hKK _ ⟨lID, eC, h', tk', l2, acc, e2, rfl, F', N', hacc⟩
      refine next_range_end hh' (x := 6) F' (news := [(D, listOf acc.toArray e2)]) (fun p hp => N' p (mem_swap hp)) (ne_one (Nat.ne_of_gt lID)) fun h8 F8 N8 => ⟨rfl, hKK _ ?_⟩
      refine comp_end F7 N7 (fun p hp => Nat.ne_of_lt (q7 p hp)) F8 N8 (ne_one (Nat.ne_of_gt lID)) eC fun h9 F9 N9 => ?_
      clear F8 N8 F' N' F7 N7 q7 hcP hcQ
      obtain ⟨a, b, c, d, hfil, ⟨ha6, hb6, hc6, hd6⟩, hpf⟩ := pf_all (wAt_anti ns 15) hpq1 hq6
      have hrest : restF p q 6 = [a, b, c, d] := hfil
      rw [hrest] at hacc
      obtain ⟨ua, ub, uc, ud, rfl⟩ : ∃ ua ub uc ud, acc = [Value.int (a : Nat) ua, Value.int (b : Nat) ub, Value.int (c : Nat) uc, Value.int (d : Nat) ud] := by
        cases hacc with
        | cons _ u1 r =>
          cases r with
          | cons _ u2 r =>
            cases r with
            | cons _ u3 r =>
              cases r with
              | cons _ u4 r =>
                cases r with
                | nil => exact ⟨u1, u2, u3, u4, rfl⟩
      refine f_unpackL4 F9 N9 (PySem.IsL.isList (n := e2) (N9 _ (.head _)).1) hh' fun h10 F10 N10 => ?_
      replace N10 : News hp L h10 ((I, riObj (k + 1) (3 - k - 1)) :: (cp, op2) :: (cq, oq2) :: (own ++ tb)) := fun z hz => N10 z (.tail _ hz)
      clear F9 N9 hacc hfil
      iterate 4 walk1
      rename_i h11 tk11 F11 N11 h12 tk12 F12 N12 h13 tk13 F13 N13 h14 tk14 F14 N14
      clear F10 N10 F11 N11 F12 N12 F13 N13
      obtain ⟨rows, eS, hSm, hM⟩ := hmat
      iterate 19 walk1
      refine four_spec (s := ⟨_, _, _, _, _⟩) (W := wAt ns 15) (p := p) (q := q) (x := a) (y := b) (G.keeps F14.keep) (matB_mat hM (N14 _ (up hSm)).1 (fun z hz => (N14 z (up hz)).1) hM.1) (by omega) hq6 ha6 hb6 (sm100 ns) (room0 hroom) fun u15 h15 tk15 k15 => ?_
      have F15 := fr_ext (as := []) F14 (fun _ h => nomatch h) k15
      have N15 := news_keep N14 fun b o e => k15 b o List.not_mem_nil e
      clear F14 N14 k15
      dsimp only
      iterate 15 walk1
      refine four_spec (s := ⟨_, _, _, _, _⟩) (W := wAt ns 15) (p := p) (q := q) (x := c) (y := d) (G.keeps F15.keep) (matB_mat hM (N15 _ (up hSm)).1 (fun z hz => (N15 z (up hz)).1) hM.1) (by omega) hq6 hc6 hd6 (sm100 ns) (room0 hroom) fun u16 h16 tk16 k16 => ?_
      have F16 := fr_ext (as := []) F15 (fun _ h => nomatch h) k16
      have N16 := news_keep N15 fun b o e => k16 b o List.not_mem_nil e
      clear F15 N15 k16
      dsimp only
      refine f_mul (sm_four ns p q a b) (sm_four ns p q c d) (by decide) (by decide) ?_
      iterate 1 walk1
      rename_i h17 tk17 F17 N17
      clear F16 N16
      iterate 20 walk1
      refine four_spec (s := ⟨_, _, _, _, _⟩) (W := wAt ns 15) (p := p) (q := q) (x := a) (y := c) (G.keeps F17.keep) (matB_mat hM (N17 _ (up hSm)).1 (fun z hz => (N17 z (up hz)).1) hM.1) (by omega) hq6 ha6 hc6 (sm100 ns) (room0 hroom) fun u18 h18 tk18 k18 => ?_
      have F18 := fr_ext (as := []) F17 (fun _ h => nomatch h) k18
      have N18 := news_keep N17 fun b o e => k18 b o List.not_mem_nil e
      clear F17 N17 k18
      dsimp only
      iterate 15 walk1
      refine four_spec (s := ⟨_, _, _, _, _⟩) (W := wAt ns 15) (p := p) (q := q) (x := b) (y := d) (G.keeps F18.keep) (matB_mat hM (N18 _ (up hSm)).1 (fun z hz => (N18 z (up hz)).1) hM.1) (by omega) hq6 hb6 hd6 (sm100 ns) (room0 hroom) fun u19 h19 tk19 k19 => ?_
      have F19 := fr_ext (as := []) F18 (fun _ h => nomatch h) k19
      have N19 := news_keep N18 fun b o e => k19 b o List.not_mem_nil e
      clear F18 N18 k19
      dsimp only
      refine f_mul (sm_four ns p q a c) (sm_four ns p q b d) (by decide) (by decide) ?_
      iterate 2 walk1
      rename_i h20 tk20 F20 N20
      clear F19 N19
      iterate 20 walk1
      refine four_spec (s := ⟨_, _, _, _, _⟩) (W := wAt ns 15) (p := p) (q := q) (x := a) (y := d) (G.keeps F20.keep) (matB_mat hM (N20 _ (up hSm)).1 (fun z hz => (N20 z (up hz)).1) hM.1) (by omega) hq6 ha6 hd6 (sm100 ns) (room0 hroom) fun u21 h21 tk21 k21 => ?_
      have F21 := fr_ext (as := []) F20 (fun _ h => nomatch h) k21
      have N21 := news_keep N20 fun b o e => k21 b o List.not_mem_nil e
      clear F20 N20 k21
      dsimp only
      iterate 15 walk1
      refine four_spec (s := ⟨_, _, _, _, _⟩) (W := wAt ns 15) (p := p) (q := q) (x := b) (y := c) (G.keeps F21.keep) (matB_mat hM (N21 _ (up hSm)).1 (fun z hz => (N21 z (up hz)).1) hM.1) (by omega) hq6 hb6 hc6 (sm100 ns) (room0 hroom) fun u22 h22 tk22 k22 => ?_
      have F22 := fr_ext (as := []) F21 (fun _ h => nomatch h) k22
      have N22 := news_keep N21 fun b o e => k22 b o List.not_mem_nil e
      clear F21 N21 k22
      dsimp only
      refine f_mul (sm_four ns p q a d) (sm_four ns p q b c) (by decide) (by decide) ?_
      iterate 2 walk1
      rename_i h23 tk23 F23 N23
      clear F22 N22
      simp only [fourW] at hpf
      have sF : Sm 406 (wAt ns 15 p q * (if (p + q) % 2 = 1 then toldW (wAt ns 15) else -toldW (wAt ns 15))) := by
        rw [← hpf]
        exact ((((sm_four ns p q a b).mul (sm_four ns p q c d)).sub ((sm_four ns p q a c).mul (sm_four ns p q b d))).add (((sm_four ns p q a d).mul (sm_four ns p q b c)).le (by decide)))
      rw [hpf] at F23
      clear hpf
      obtain ⟨r, cs, er, hr, hrm, hcl, hcs⟩ := hM.2.2 p (by omega)
      obtain ⟨tw, htw⟩ := hcs q hq6
      iterate 8 walk1
      refine at_mem N23 (up hSm) (by omega) hr ?_
      iterate 1 walk1
      refine at_mem N23 (up hrm) (by omega) htw ?_
      iterate 1 walk1
      have sfar : Sm 133 (10 ^ 40 : Int) := by unfold Sm; decide
      refine f_mul (sm100 ns p q) sfar (by decide) (by decide) ?_
      iterate 2 walk1
      rename_i h24 tk24 F24 N24
      clear F23 N23
      have hne : ∀ z ∈ (I, riObj (k + 1) (3 - k - 1)) :: (cp, op2) :: (cq, oq2) :: own, z.1 ≠ 75 ∧ z.1 ≠ 82 := fun z hz => by
        rcases List.mem_cons.mp hz with rfl | hz
        · exact hI75
        rcases List.mem_cons.mp hz with rfl | hz
        · exact hp75
        rcases List.mem_cons.mp hz with rfl | hz
        · exact hq75
        · exact (hsep z hz).2
      have q9 : ∀ {y : Str} {u : Value} {x1 x2 x3 x4 x5 x6 x7 x8 x9 : Value}, (y == Str.ofString "by") = false → (y == Str.ofString "four") = false → (y == Str.ofString "d") = false → (y == Str.ofString "c") = false → (y == Str.ofString "b") = false → (y == Str.ofString "a") = false → (y == Str.ofString "k") = false → lk l' y = some u → lk (("by", x1) :: ("four", x2) :: ("four", x3) :: ("four", x4) :: ("d", x5) :: ("c", x6) :: ("b", x7) :: ("a", x8) :: ("k", x9) :: l') y = some u := fun a b c d e f g h => lk_miss a (lk_miss b (lk_miss b (lk_miss b (lk_miss c (lk_miss d (lk_miss e (lk_miss f (lk_miss g h))))))))
      refine law_div (rest := (I, riObj (k + 1) (3 - k - 1)) :: (cp, op2) :: (cq, oq2) :: own) (tb := tb) (p := p) (q := q) (k := k) (b := wAt ns 15 p q) G F24 N24 (.tail _ (.head _)) (.tail _ (.tail _ (.head _))) dP dQ T' hne (lk_miss (by kernel_rfl) (lk_miss (by kernel_rfl) (lk_miss (by kernel_rfl) (lk_miss (by kernel_rfl) (lk_miss (by kernel_rfl) (lk_miss (by kernel_rfl) (lk_miss (by kernel_rfl) (lk_miss (by kernel_rfl) lk_hit)))))))) (lk_miss (by kernel_rfl) lk_hit) lk_hit (q9 (by kernel_rfl) (by kernel_rfl) (by kernel_rfl) (by kernel_rfl) (by kernel_rfl) (by kernel_rfl) (by kernel_rfl) lT) (q9 (by kernel_rfl) (by kernel_rfl) (by kernel_rfl) (by kernel_rfl) (by kernel_rfl) (by kernel_rfl) (by kernel_rfl) lF) rfl (sm100 ns p q) sF rfl hh hroom hu hfr fun h25 tk25 l25 tb25 F25 N25 T25 same25 => ?_
      refine hPo _ _ (lp_next ?_)
      have s25 : ∀ {y : Str} {u : Value}, (y == Str.ofString "more") = false → (y == Str.ofString "quotient") = false → (y == Str.ofString "answer") = false → (y == Str.ofString "by") = false → (y == Str.ofString "four") = false → (y == Str.ofString "d") = false → (y == Str.ofString "c") = false → (y == Str.ofString "b") = false → (y == Str.ofString "a") = false → (y == Str.ofString "k") = false → lk l' y = some u → lk l25 y = some u := fun a b c d e f g h i j u => (same25 _ a b e c).trans (q9 d e f g h i j u)
      have f1 := s25 (by kernel_rfl) (by kernel_rfl) (by kernel_rfl) (by kernel_rfl) (by kernel_rfl) (by kernel_rfl) (by kernel_rfl) (by kernel_rfl) (by kernel_rfl) (by kernel_rfl) lS
      have f2 := s25 (by kernel_rfl) (by kernel_rfl) (by kernel_rfl) (by kernel_rfl) (by kernel_rfl) (by kernel_rfl) (by kernel_rfl) (by kernel_rfl) (by kernel_rfl) (by kernel_rfl) lW
      have f3 := s25 (by kernel_rfl) (by kernel_rfl) (by kernel_rfl) (by kernel_rfl) (by kernel_rfl) (by kernel_rfl) (by kernel_rfl) (by kernel_rfl) (by kernel_rfl) (by kernel_rfl) lT
      have f4 := s25 (by kernel_rfl) (by kernel_rfl) (by kernel_rfl) (by kernel_rfl) (by kernel_rfl) (by kernel_rfl) (by kernel_rfl) (by kernel_rfl) (by kernel_rfl) (by kernel_rfl) lF
      exact ⟨h25, _, l25, op2, oq2, _, _, tb25, rfl, F25, N25, dP, dQ, T25, f1, f2, f3, f4⟩
end Mine
end
section
theorem Mine.freshT50 : True := by
  w_top off
  trivial
namespace Mine
variable {w : World} {mg mb : Str → Option Value}
theorem LawSt.sub {own own' : List (Addr × Obj)} {ns : List Int} {S Wv Dr x dx H : Addr} {hsh : Int} {th : Tok} (Z : LawSt own ns S Wv Dr x dx H hsh th) (k : ∀ p ∈ own, p ∈ own') : LawSt own' ns S Wv Dr x dx H hsh th :=
  ⟨let ⟨rows, eS, a, b⟩ := Z.mat; ⟨rows, eS, k _ a, b.sub k⟩, let ⟨acc, eW, a, b⟩ := Z.ways; ⟨acc, eW, k _ a, b.sub k⟩, let ⟨vd, eD, a, b⟩ := Z.dress; ⟨vd, eD, k _ a, b⟩, k _ Z.x, k _ Z.dx⟩
theorem EntB.sub {own own' : List (Addr × Obj)} {refs : List Value} {ents : List (Str × Str)} (x : EntB own refs ents) (k : ∀ p ∈ own, p ∈ own') : EntB own' refs ents :=
  ⟨x.1, fun i e h => let ⟨T, t, u, a, b⟩ := x.2 i e h; ⟨T, t, u, a, k _ b⟩⟩
theorem law_all {prog : Program} {A : Around} {R : Result → Shared → Prop} {hp h : Heap} {gs : Array GenState} {dr : Drawn} {tk : Nat} {os : OsState} {D₀ L f cp cq : Addr} {cd : Value} {nm : Str} {vs : List Value} {ns : List Int} {op oq : Obj} {vp vq : Option Value} (G : Gl w mg mb hp) (F : Fr hp L h (lk [("script", .ref D₀)])) (N : News hp L h [(cq, oq), (cp, op), (82, tabObj #[]), (75, tabObj #[])])
    (hop : op.data = .cell vp) (hoq : oq.data = .cell vq) (hcc : cp ≠ cq) (hp75 : cp ≠ 75 ∧ cp ≠ 82) (hq75 : cq ≠ 75 ∧ cq ≠ 82) (hl : hp.IsList D₀ vs.toArray) (hi : IntsAre vs ns) (hn : ns.length ≤ 63) (hbare : ∀ y ∈ gs, y.bare = true) (hh : A.handled = none) (hroom : A.depth + 90 < recursionLimit) (hu : A.units + 100 < cLine) (hfr : A.frames = some [])
    (hR : ∀ (h' : Heap) (gs' : Array GenState) (tk' : Nat) (l' : List (Str × Value)), Fr hp L h' (lk l') → Tabs w h' → (∀ y ∈ gs', y.bare = true) → R (.ok (.ret (.bool true))) ⟨h', gs', dr, tk', os⟩) :
    wpAny (model prog w) (A.deeper (envG nm (lawS w).1 L f cd [("q", cq), ("p", cp)])) (execs (lawB w).1 (envG nm (lawS w).1 L f cd [("q", cq), ("p", cp)])) (Rt R) (Lv (model prog w) A (envG nm (lawS w).1 L f cd [("q", cq), ("p", cp)]) R) ⟨h, gs, dr, tk, os⟩ := by
  refine law_start G F N hl hi hn hh (by omega) hu fun h1 tk1 own S Wv Dr x dx H hsh th F1 N1 neH neM Z => ?_
  have mq : (cq, oq) ∈ [(cq, oq), (cp, op), (82, tabObj #[]), (75, tabObj #[])] := .head _
  have mp : (cp, op) ∈ [(cq, oq), (cp, op), (82, tabObj #[]), (75, tabObj #[])] := .tail _ (.head _)
  have m82 : ((82 : Addr), tabObj #[]) ∈ [(cq, oq), (cp, op), (82, tabObj #[]), (75, tabObj #[])] := .tail _ (.tail _ (.head _))
  have m75 : ((75 : Addr), tabObj #[]) ∈ [(cq, oq), (cp, op), (82, tabObj #[]), (75, tabObj #[])] := .tail _ (.tail _ (.tail _ (.head _)))
  have nP := neH _ (List.mem_append_right own mp)
  have nQ := neH _ (List.mem_append_right own mq)
  have n82 := neH _ (List.mem_append_right own m82)
  have n75 := neH _ (List.mem_append_right own m75)
  have sub1 : ∀ p ∈ own, p ∈ own ++ [(75, tabObj #[]), (82, tabObj #[])] := fun p hp => List.mem_append_left _ hp
  have N1' : News hp L h1 ((H, listOf #[] 0) :: (cp, op) :: (cq, oq) :: (own ++ [(75, tabObj #[]), (82, tabObj #[])])) := fun p hp => by
    rcases List.mem_cons.mp hp with rfl | hp
    · exact N1 _ (.head _)
    rcases List.mem_cons.mp hp with rfl | hp
    · exact N1 _ (.tail _ (List.mem_append_right own mp))
    rcases List.mem_cons.mp hp with rfl | hp
    · exact N1 _ (.tail _ (List.mem_append_right own mq))
    rcases List.mem_append.mp hp with hp | hp
    · exact N1 _ (.tail _ (List.mem_append_left _ hp))
    rcases List.mem_cons.mp hp with rfl | hp
    · exact N1 _ (.tail _ (List.mem_append_right own m75))
    · rw [List.mem_singleton.mp hp]; exact N1 _ (.tail _ (List.mem_append_right own m82))
  have sep1 : ∀ p ∈ own ++ [(75, tabObj #[]), (82, tabObj #[])], p.1 ≠ H ∧ p.1 ≠ cp ∧ p.1 ≠ cq := fun p hp => by
    rcases List.mem_append.mp hp with hp | hp
    · exact ⟨neH p (List.mem_append_left _ hp), neM p hp _ mp, neM p hp _ mq⟩
    rcases List.mem_cons.mp hp with rfl | hp
    · exact ⟨n75, hp75.1.symm, hq75.1.symm⟩
    · rw [List.mem_singleton.mp hp]; exact ⟨n82, hp75.2.symm, hq75.2.symm⟩
  clear N1
  refine law_loop1 G F1 N1' hop hoq ⟨lk_of (by rfl), lk_of (by rfl), lk_of (by rfl), lk_of (by rfl), lk_of (by rfl)⟩ (Z.sub sub1) hbare sep1 ⟨nP.symm, nQ.symm, hcc⟩ hh (by omega) hu fun h2 gs2 tk2 l2 refs ep op2 oq2 own2 vp2 vq2 bare2 F2 N2 sep2 sub2 hop2 hoq2 B2 E2 => ?_
  clear F1 N1'
  have sub02 : ∀ p ∈ own, p ∈ own2 := fun p hp => sub2 p (sub1 p hp)
  have up2 : ∀ p ∈ own2, p ∈ (H, listOf refs.toArray ep) :: (cp, op2) :: (cq, oq2) :: own2 := fun p hp => .tail _ (.tail _ (.tail _ hp))
  refine law_told G F2 N2 (up2 _ (sub02 _ Z.x)) (up2 _ (sub02 _ Z.dx)) (.head _) (E2.sub up2) B2 hh (by omega) hu fun h3 tk3 l3 t1 t2 F3 N3 B3 lto lfar => ?_
  clear F2 N2
  replace N3 : News hp L h3 ((cp, op2) :: (cq, oq2) :: own2) := fun p hp => N3 p (.tail _ hp)
  refine law_turned (own0 := own) (th := th) (hsh := hsh) (H := H) (dx := dx) G F3 N3 hop2 hoq2 B3 sub02 (let ⟨acc, eW, a, b⟩ := Z.ways; ⟨acc, eW, sub02 _ a, b⟩) (let ⟨vd, eD, a, b⟩ := Z.dress; ⟨vd, eD, sub02 _ a, b⟩) bare2 (fun p hp => (sep2 p hp).2) hcc hl hi hn lto lfar hh (by omega) hu fun h4 gs4 tk4 l4 op4 oq4 vp4 vq4 way v bare4 F4 N4 hop4 hoq4 B4 hwm hwk lway lto4 lfar4 => ?_
  clear F3 N3
  have N4' : News hp L h4 ((cp, op4) :: (cq, oq4) :: (own ++ [(75, tabObj #[]), (82, tabObj #[])])) := fun p hp => by
    rcases List.mem_cons.mp hp with rfl | hp
    · exact N4 _ (.head _)
    rcases List.mem_cons.mp hp with rfl | hp
    · exact N4 _ (.tail _ (.head _))
    · exact N4 _ (.tail _ (.tail _ (sub2 _ hp)))
  exact law_last G F4 N4' hop4 hoq4 TbOk.start Z.mat hwm hwk (fun z hz => ⟨⟨neM z hz _ mp, neM z hz _ mq⟩, neM z hz _ m75, neM z hz _ m82⟩) hcc hp75 hq75 B4.worths lway lto4 lfar4 hh hroom hu hfr fun h' tk' l' F' T' => hR h' gs4 tk' l' F' T' bare4
end Mine
end
section
theorem Mine.freshT51 : True := by
  w_top off
  trivial
namespace Mine
variable {w : World} {mg mb : Str → Option Value}
/-- all that stood is as it was, but the tables, which have grown -/
theorem old_tabs {h h' : Heap} {tabs : List (Addr × Addr)} (hT : TabsAt tabs h) (hk : ∀ b o, (ghostOf h tabs).get? b = some o → h'.get? b = some o) (hg : ∀ q ∈ tabs, ∃ ps, h'.get? q.2 = some (tabObj ps)) : OldK h h' := by
  have key : ∀ b o, h.get? b = some o → h'.get? b = some o ∨ (isCodeTable h b ∧ o = tabObj #[] ∧ ∃ ps, h'.get? b = some (tabObj ps)) := fun b o e => by
    by_cases hb : b ∈ tabs.map (·.2)
    · obtain ⟨q, hq, rfl⟩ := List.mem_map.mp hb
      obtain ⟨C, z⟩ := hT q hq
      rw [e] at z
      exact .inr ⟨(C.tab (e.trans z)).isCodeTable, Option.some.inj z, hg q hq⟩
    · exact .inl (hk b o (ghost_ne e hb))
  refine ⟨fun b o e => ?_, fun b o e => ?_⟩
  · rcases key b o e with k | ⟨k1, rfl, ps, k3⟩
    · exact .inl k
    · exact .inr (.inl ⟨k1, rfl, #[], ps, rfl, by simpa using k3⟩)
  · rcases key b o e with k | ⟨_, _, ps, k⟩
    · exact ⟨o, k⟩
    · exact ⟨_, k⟩
/-- a law's end: True, with tables grown and with bare generators -/
theorem law_end {M : Model} {A : Around} {cd : Code} {s s₁ : Shared} {cw : ClaimW} {cl : Str → Option Addr} {mean : ExcName → Option Value} {args : List WData} {tabs : List (Addr × Addr)} (hT : TabsAt tabs s₁.heap) (hr : ∀ x, cw.raises args x = false) (hp : cw.post args (.bool true) args = true)
    (h : codeAny M A cd (fun r s' => r = .ok (.ret (.bool true)) ∧ (∀ b o, (ghostOf s₁.heap tabs).get? b = some o → s'.heap.get? b = some o) ∧ (∀ q ∈ tabs, ∃ ps, s'.heap.get? q.2 = some (tabObj ps)) ∧ s'.os = s₁.os ∧ AllBare s'.gens) s) : codeAny M A cd (GoodWG cw cl mean args s₁) s :=
  codeAny_mono h fun r s' ⟨e, hk, hg, ho, hb⟩ =>
    ⟨.inl ⟨.bool true, .bool true, [], e, hr, ReadsW.bool true, hp, fun _ => ⟨List.nodup_nil, fun _ hm => nomatch hm⟩⟩, old_tabs hT hk hg, ho, hb⟩
end Mine
end
section
theorem Mine.freshT52 : True := by
  w_top off
  trivial
namespace Mine
variable {w : World} {mg mb : Str → Option Value}
theorem frame_start {h₀ h : Heap} {L D : Addr} (F : Fr h₀ L h (bindL (kindS (lawS w).1) [(Str.ofString "script", .ref D)] (fun _ => none))) : Fr h₀ L h (lk [("script", .ref D)]) := by
  have e : bindL (kindS (lawS w).1) [(Str.ofString "script", .ref D)] (fun _ => none) = lk [("script", .ref D)] := by
    rw [← lk_nil, bindL_lk, List.append_nil]
    kernel_rfl
  rw [e] at F
  exact F
/-- the law's body from its frame on -/
theorem law_entry {prog : Program} {A : Around} {s₁ : Shared} {h : Heap} {tk : Nat} {D₀ L f : Addr} {cd : Value} {nm : Str} {vs : List Value} {ns : List Int} {op oq : Obj} {vp vq : Option Value} {tabs : List (Addr × Addr)} (ht : tabs = [(86, 82), (79, 75)]) (hX : (KF w).In (ghostOf s₁.heap tabs)) (hT : ∃ loose mean, Top topProg loose mean mg mb (ghostOf s₁.heap tabs))
    (F : Fr (ghostOf s₁.heap tabs) L h (bindL (kindS (lawS w).1) [(Str.ofString "script", .ref D₀)] (fun _ => none))) (N : News (ghostOf s₁.heap tabs) L h [(L + 1 + 1, oq), (L + 1, op), (82, tabObj #[]), (75, tabObj #[])])
    (hop : op.data = .cell vp) (hoq : oq.data = .cell vq) (hlow : 82 < L ∧ 75 < L) (hl : (ghostOf s₁.heap tabs).IsList D₀ vs.toArray) (hi : IntsAre vs ns) (hn : ¬ ((63 : Nat) : Int) < ((ns.length : Nat) : Int)) (hg : s₁.gens = #[]) (hA : A = callerA) :
    wpAny (model prog w) (A.deeper (envX nm (lawS w).1 L f cd [("q", L + 1 + 1), ("p", L + 1)])) (execs (lawB w).1 (envX nm (lawS w).1 L f cd [("q", L + 1 + 1), ("p", L + 1)]))
      (fun fl s' => Except.ok (ε := Value) (Flow.ret (match fl with | .ret v => v | _ => .none)) = .ok (.ret (.bool true)) ∧ (∀ b o, (ghostOf s₁.heap tabs).get? b = some o → s'.heap.get? b = some o) ∧ (∀ q ∈ tabs, ∃ ps, s'.heap.get? q.2 = some (tabObj ps)) ∧ s'.os = s₁.os ∧ AllBare s'.gens)
      (fun e s' => wpAny (model prog w) (A.deeper (envX nm (lawS w).1 L f cd [("q", L + 1 + 1), ("p", L + 1)])) (leaving (envX nm (lawS w).1 L f cd [("q", L + 1 + 1), ("p", L + 1)]) e)
        (fun _ s'' => Except.error e = .ok (Flow.ret (.bool true)) ∧ (∀ b o, (ghostOf s₁.heap tabs).get? b = some o → s''.heap.get? b = some o) ∧ (∀ q ∈ tabs, ∃ ps, s''.heap.get? q.2 = some (tabObj ps)) ∧ s''.os = s₁.os ∧ AllBare s''.gens)
        (fun e' s'' => Except.error e' = .ok (Flow.ret (.bool true)) ∧ (∀ b o, (ghostOf s₁.heap tabs).get? b = some o → s''.heap.get? b = some o) ∧ (∀ q ∈ tabs, ∃ ps, s''.heap.get? q.2 = some (tabObj ps)) ∧ s''.os = s₁.os ∧ AllBare s''.gens) s')
      ⟨h, s₁.gens, s₁.drawn, tk, s₁.os⟩ := by
  subst hA
  have key := law_all (prog := prog) (A := callerA) (nm := nm) (f := f) (cd := cd) (gs := s₁.gens) (dr := s₁.drawn) (tk := tk) (os := s₁.os) (R := fun r s' => r = .ok (.ret (.bool true)) ∧ (∀ b o, (ghostOf s₁.heap tabs).get? b = some o → s'.heap.get? b = some o) ∧ (∀ q ∈ tabs, ∃ ps, s'.heap.get? q.2 = some (tabObj ps)) ∧ s'.os = s₁.os ∧ AllBare s'.gens)
    ⟨hX, hT⟩ (frame_start F) N hop hoq (Nat.ne_of_lt (Nat.lt_succ_self _)) ⟨Nat.ne_of_gt (Nat.lt_succ_of_lt hlow.2), Nat.ne_of_gt (Nat.lt_succ_of_lt hlow.1)⟩ ⟨Nat.ne_of_gt (Nat.lt_succ_of_lt (Nat.lt_succ_of_lt hlow.2)), Nat.ne_of_gt (Nat.lt_succ_of_lt (Nat.lt_succ_of_lt hlow.1))⟩ hl hi (by omega) (by rw [hg]; exact AllBare.empty) rfl (by decide) (by decide) rfl
    (fun h' gs' tk' l' F' T' hb => ⟨rfl, fun b o e => F'.keep b o e, fun q hq => by
      rw [ht] at hq
      obtain ⟨⟨ps, e1, _⟩, ⟨rs, e2, _⟩⟩ := T'
      rcases List.mem_cons.mp hq with rfl | hq
      · exact ⟨rs, e2⟩
      · rw [List.mem_singleton.mp hq]; exact ⟨ps, e1⟩, rfl, hb⟩)
  rw [envG_eq] at key
  exact key
end Mine
end
theorem Mine.freshEnd : True := by
  w_top off
  trivial
set_option maxHeartbeats 8000000 in
theorem PySem.Challenge.cw_sw0077_01_holds : PySem.Challenge.rw_sw0077_01.Holds := by
  exact hd (by w_strict (
    k_fill
    intro w s₀ s₁ mg mb G Y fa o pm cd doc dV kV ho hd hcd hD hmg hg args vals as hpre hlay hrd hwl hlo
    have KX := km_in_of Y
    km_tabs Y
    have X := (Ground.X G).1
    have V := (Ground.X G).2
    refine Ground.open G ?_
    intro T B D TE TW
    try (refine guard_noD D (by decide +kernel) ?_; clear D)
    km_lay T hmg ho hd cd
    clear hmg
    wrow_args hpre hlay hrd hwl hlo
    first | refine callC_kw (enter_call ?_) | refine enter_call ?_
    refine Mine.law_end hT9 (fun _ => rfl) (by wrow_post) ?_
    w_call any ho hd hcd hD T F
    clear hd
    kn_ghosts F T
    k_drop
    rename_i h₁ tk₁ o1 o2 c1 c2 Y0 X1 T1 K1 F1 C1 N1 l1
    rename IntsAre _ _ => hI
    rename (¬ (_ < _)) => hn
    clear hcd hD Y0 ho
    exact Mine.law_entry (mg := mg) (mb := mb) rfl X1 ⟨_, _, T1⟩ F1 N1 c2 c1 l1 lifted hI hn hg rfl))
