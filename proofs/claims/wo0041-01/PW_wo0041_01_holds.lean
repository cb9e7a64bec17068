import PyProof.Rows.All
import Wide.All
import OpenK.AllK
import Wide.FinOn
import Lean
import PySem.Challenge.RW_wo0041_01
open PySem PySem.W PySem.Calls PyProof.Rows
set_option Elab.async false
set_option maxRecDepth 100000
set_option maxHeartbeats 4000000
/- The rows name_quick (a command of the library) take the names under which open_top would lay a quicker twin of each of its own constants. The proof uses neither: the twins alone have 24 MB compiled, and the kernel is as fast without them. -/
name_quick tw8075568018651887793 for PySem.W.S.findZ by PySem.W.S.findZ_eq
name_quick tw14979626087600564940 for PySem.W.S.findZ by PySem.W.S.findZ_eq
name_quick tw5687672020704872788 for PySem.W.S.findZ by PySem.W.S.findZ_eq
name_quick tw2834686923529337001 for PySem.W.S.findZ by PySem.W.S.findZ_eq
name_quick tw11520701649476022134 for PySem.W.S.findZ by PySem.W.S.findZ_eq
name_quick tw1340868782516533803 for PySem.W.S.findZ by PySem.W.S.findZ_eq
name_quick tw14391268981414578426 for PySem.W.S.findZ by PySem.W.S.findZ_eq
name_quick tw3976722010076183465 for PySem.W.S.findZ by PySem.W.S.findZ_eq
name_quick tw18340240734955500558 for PySem.W.S.findZ by PySem.W.S.findZ_eq
name_quick tw2532725972614424836 for PySem.W.S.findZ by PySem.W.S.findZ_eq
name_quick tw11985326045990495214 for PySem.W.S.findZ by PySem.W.S.findZ_eq
name_quick tw16049961110935095269 for PySem.W.S.findZ by PySem.W.S.findZ_eq
name_quick tw13981391230805400906 for PySem.W.S.findZ by PySem.W.S.findZ_eq
name_quick tw10887116778572429059 for PySem.W.S.findZ by PySem.W.S.findZ_eq
name_quick tw14649835086701579774 for PySem.W.S.findZ by PySem.W.S.findZ_eq
name_quick tw17111948838632640456 for PySem.W.S.findZ by PySem.W.S.findZ_eq
name_quick tw17672482021469178181 for PySem.W.S.findZ by PySem.W.S.findZ_eq
name_quick tw2334193516648215543 for PySem.W.S.findZ by PySem.W.S.findZ_eq
name_quick tw8897938508979226211 for PySem.W.S.findZ by PySem.W.S.findZ_eq
name_quick tw14781814936221603388 for PySem.W.S.findZ by PySem.W.S.findZ_eq
name_quick tw13034053981158551246 for PySem.W.S.findZ by PySem.W.S.findZ_eq
name_quick tw5268983451555188008 for PySem.W.S.findZ by PySem.W.S.findZ_eq
name_quick tw11317593695737139937 for PySem.W.S.findZ by PySem.W.S.findZ_eq
name_quick tw10833955939284561965 for PySem.W.S.findZ by PySem.W.S.findZ_eq
name_quick tw682011567655089306 for PySem.W.S.findZ by PySem.W.S.findZ_eq
name_quick tw15263041282635125899 for PySem.W.S.findZ by PySem.W.S.findZ_eq
name_quick tw8860024209350480642 for PySem.W.S.findZ by PySem.W.S.findZ_eq
name_quick tw4552823106982906706 for PySem.W.S.findZ by PySem.W.S.findZ_eq
name_quick tw12945451867199242903 for PySem.W.S.findZ by PySem.W.S.findZ_eq
name_quick tw10942035263794033107 for PySem.W.S.findZ by PySem.W.S.findZ_eq
name_quick tw1355338860687761863 for PySem.W.S.findZ by PySem.W.S.findZ_eq
name_quick tw1377046205977697930 for PySem.W.S.findZ by PySem.W.S.findZ_eq
name_quick tw7232422423428716515 for PySem.W.S.findZ by PySem.W.S.findZ_eq
name_quick tw9467589175468403638 for PySem.W.S.findZ by PySem.W.S.findZ_eq
name_quick tw14126943448341045398 for PySem.W.S.findZ by PySem.W.S.findZ_eq
name_quick tw12233582284571471492 for PySem.W.S.findZ by PySem.W.S.findZ_eq
name_quick tw17888162413812561239 for PySem.W.S.findZ by PySem.W.S.findZ_eq
name_quick tw4090926877573551719 for PySem.W.S.findZ by PySem.W.S.findZ_eq
name_quick tw8703263022893421829 for PySem.W.S.findZ by PySem.W.S.findZ_eq
name_quick tw17532718790514356516 for PySem.W.S.findZ by PySem.W.S.findZ_eq
name_quick tw14333388528381170442 for PySem.W.S.findZ by PySem.W.S.findZ_eq
name_quick tw17000155066101142889 for PySem.W.S.findZ by PySem.W.S.findZ_eq
name_quick tw14223099787259518943 for PySem.W.S.findZ by PySem.W.S.findZ_eq
name_quick tw15894407043143930727 for PySem.W.S.findZ by PySem.W.S.findZ_eq
name_quick tw11588390666370768167 for PySem.W.S.findZ by PySem.W.S.findZ_eq
name_quick tw2719445374943340272 for PySem.W.S.findZ by PySem.W.S.findZ_eq
name_quick tw8537084889766193716 for PySem.W.S.findZ by PySem.W.S.findZ_eq
name_quick tw18211773271919218964 for PySem.W.S.findZ by PySem.W.S.findZ_eq
name_quick tw13678640442995254988 for PySem.W.S.findZ by PySem.W.S.findZ_eq
name_quick tw15475462885187679331 for PySem.W.S.findZ by PySem.W.S.findZ_eq
name_quick tw14108194823987119177 for PySem.W.S.findZ by PySem.W.S.findZ_eq
name_quick tw17497748084772794779 for PySem.W.S.findZ by PySem.W.S.findZ_eq
name_quick tw13317431791736044220 for PySem.W.S.findZ by PySem.W.S.findZ_eq
name_quick tw5770868932273138760 for PySem.W.S.findZ by PySem.W.S.findZ_eq
name_quick tw4558998842232669794 for PySem.W.S.findZ by PySem.W.S.findZ_eq
name_quick tw3891137856419664920 for PySem.W.S.findZ by PySem.W.S.findZ_eq
name_quick tw1291980286583624508 for PySem.W.S.findZ by PySem.W.S.findZ_eq
name_quick tw18345786424863182364 for PySem.W.S.findZ by PySem.W.S.findZ_eq
name_quick tw15112985482279097393 for PySem.W.S.findZ by PySem.W.S.findZ_eq
name_quick tw15980859228951719591 for PySem.W.S.findZ by PySem.W.S.findZ_eq
name_quick tw1414301608579184545 for PySem.W.S.findZ by PySem.W.S.findZ_eq
name_quick tw1258299570235058372 for PySem.W.S.findZ by PySem.W.S.findZ_eq
name_quick tw9564595351457756722 for PySem.W.S.findZ by PySem.W.S.findZ_eq
name_quick tw16916688483869632129 for PySem.W.S.findZ by PySem.W.S.findZ_eq
name_quick tw16593013826814733010 for PySem.W.S.findZ by PySem.W.S.findZ_eq
name_quick tw151948405760981731 for PySem.W.S.findZ by PySem.W.S.findZ_eq
namespace Mine
section SHd41
set_option maxHeartbeats 8000000
open_top hd for PySem.Challenge.rw_wo0041_01
end SHd41
section SB41
theorem nilB41 : True := by
  w_top off
  trivial
noncomputable def Stop (p : Prop) : Prop := p
theorem Stop.go {p : Prop} (h : Stop p) : p := h
noncomputable abbrev LS : List Str := looseW hd.view_39 [Str.ofString "EXACT_TOKEN_TYPES"]
theorem fill : (fun (_ : Params → Frag) (_ : OpenLaw) => True) hd.heap_39 PySem.Challenge.rw_wo0041_01 := by
  k_fill
  trivial

/-- what a call of the def at f answers -/
noncomputable def Spec (f : Addr) (vs : List Value) (d u : Nat) (Pre : Heap → Prop) (Post : Heap → Heap → Value → Prop) : Prop :=
  ∀ (w : World) (mean : ExcName → Option Value) (mg mb : Str → Option Value) (dp un : Nat) (gd : Option (List Code)) (cn : Str) (cs : Scope) (a : Addr) (ccd : Value) (cl : List (Str × Addr)) (outer : List Env)
    (A₀ : Around) (base h₀ : Heap) (L : Addr) (m : Str → Option Value) (s : Shared) (Q E : Value → Shared → Prop),
    Below A₀ base outer h₀ → Fr h₀ L s.heap m → (hd.heap_39 w.params).In h₀ → Top hd.view_39 LS mean mg mb h₀ → cs.kind = .function → dp + d < recursionLimit → un + u < cLine → Pre s.heap →
    (∀ v h' tk', s.heap.StaysIn h' → Post s.heap h' v → Q v { s with heap := h', toks := tk' }) →
    wpAny (model PySem.Challenge.rw_wo0041_01.row.prog w) (ktrTop dp un gd cn cs L a ccd cl outer) (call (.ref f) vs) Q E s

/-- a body's end -/
noncomputable def Back (g : Heap) (Q : Value → Shared → Prop) (fl : Flow) (s' : Shared) : Prop :=
  ∃ L' m', Fr g L' s'.heap m' ∧ (g.StaysIn s'.heap → Q (match fl with | .ret v => v | _ => .none) s')
theorem Back.ret {g : Heap} {Q : Value → Shared → Prop} {v : Value} {s' : Shared} {L' : Addr} {m' : Str → Option Value} (F : Fr g L' s'.heap m') (h : g.StaysIn s'.heap → Q v s') : Back g Q (.ret v) s' := ⟨L', m', F, h⟩
theorem Back.next {g : Heap} {Q : Value → Shared → Prop} {s' : Shared} {L' : Addr} {m' : Str → Option Value} (F : Fr g L' s'.heap m') (h : g.StaysIn s'.heap → Q .none s') : Back g Q .next s' := ⟨L', m', F, h⟩

section
variable {w : World} {A : Around} {s : Shared} {base h₀ : Heap} {outer : List Env} {L f : Addr} {m mg mb : Str → Option Value} {mean : ExcName → Option Value} {env : Env} {A₀ : Around}
  {Q E : Value → Shared → Prop} {name qual : Str} {params : Arguments} {body : List Stmt} {scope : Scope} {dV kV doc pm cdv ct oc : Value} {an od : Option Addr} {osl : Array (Option Value)} {args : List Value}
theorem enter (binds : List (Str × Value)) (B : Below A₀ base outer h₀) (F : Fr h₀ L s.heap m) (X₀ : (hd.heap_39 w.params).In h₀) (T : Top hd.view_39 LS mean mg mb h₀) (hA : A.frames = some (env :: outer)) (hf : env.frame = some L) (hke : env.scope.kind = .function)
    (ho : (hd.heap_39 w.params).lookup f = some ⟨oc, od, .func (fnOf name qual params body scope dV kV doc pm an cdv ct), osl⟩) (hcd : codeIn (hd.heap_39 w.params) cdv qual = true) (hroom : A.depth < recursionLimit)
    (hbind : BindsTo s (fnOf name qual params body scope dV kV doc pm an cdv ct) ⟨args, []⟩ binds) (hloc : ∀ y ∈ binds, scope.names.lookup y.1 = some .local)
    (h : ∀ g L' h₁ tk, g = s.heap → Fr g L' h₁ (fun y => binds.reverse.lookup y) → News g L' h₁ [] → Below A base (env :: outer) g → (hd.heap_39 w.params).In g → Top hd.view_39 LS mean mg mb g →
      wpAny (model PySem.Challenge.rw_wo0041_01.row.prog w) (A.deeper (envOf qual scope L' f cdv)) (execs body (envOf qual scope L' f cdv)) (Back g Q) (fun _ _ => False) { s with heap := h₁, toks := tk })
    (hco : scope.isCoroutine = false) (hgen : scope.isGenerator = false) (hk : scope.kind = .function)
    (hcell : ∀ x ∈ scope.names, x.2 ≠ .cell) : wpAny (model PySem.Challenge.rw_wo0041_01.row.prog w) A (call (.ref f) args) Q E s := by
  refine wpAny_call ?_
  refine codeAny_call_def (fd := fnX name qual params body scope [] dV kV doc pm an cdv ct) (body := body) (binds := binds) hroom ((X₀.keeps F.keep) _ _ ho) rfl (T.nolimit.keeps F.keep) (codeRec_of (X₀.keeps F.keep) hcd) rfl hbind hcell hloc (fun h₁ hns hk₁ => ?_) hco hgen hk
  have BG := pushX B F hf hke
  refine wpAny_mono (h s.heap s.heap.objs.size h₁ _ rfl ⟨hns, hk₁, Nat.le_refl _⟩ News.nil ⟨hA, BG.stays, BG.frames⟩ (X₀.keeps F.keep) (T.keeps F.keep)) (fun fl s' hl => ?_) (fun _ _ x => x.elim)
  obtain ⟨_, _, F', k⟩ := hl
  exact k F'.keep
theorem enterC (binds : List (Str × Value)) (B : Below A₀ base outer h₀) (F : Fr h₀ L s.heap m) (X₀ : (hd.heap_39 w.params).In h₀) (T : Top hd.view_39 LS mean mg mb h₀) (hA : A.frames = some (env :: outer)) (hf : env.frame = some L) (hke : env.scope.kind = .function)
    (ho : (hd.heap_39 w.params).lookup f = some ⟨oc, od, .func (fnOf name qual params body scope dV kV doc pm an cdv ct), osl⟩) (hcd : codeIn (hd.heap_39 w.params) cdv qual = true) (hroom : A.depth < recursionLimit)
    (hbind : BindsTo s (fnOf name qual params body scope dV kV doc pm an cdv ct) ⟨args, []⟩ binds) (hkind : (binds.all fun y => scope.names.lookup y.1 == some .local || scope.names.lookup y.1 == some .cell) = true)
    (hnd : ((cellsFrom 0 scope.names []).map (·.1)).Nodup)
    (h : ∀ g L' h₁ tk cells, g = s.heap → Fr g L' h₁ (bindL (envOfC qual scope L' f cdv).kindOf binds fun _ => none) → News g L' h₁ cells →
      CellsAre (bindC (envOfC qual scope L' f cdv).kindOf binds fun _ => none) (cellsFrom (L' + 1) scope.names []) cells → Below A base (env :: outer) g → (hd.heap_39 w.params).In g → Top hd.view_39 LS mean mg mb g →
      wpAny (model PySem.Challenge.rw_wo0041_01.row.prog w) (A.deeper (envOfC qual scope L' f cdv)) (execs body (envOfC qual scope L' f cdv)) (Back g Q) (fun _ _ => False) { s with heap := h₁, toks := tk })
    (hco : scope.isCoroutine = false) (hgen : scope.isGenerator = false) (hk : scope.kind = .function) : wpAny (model PySem.Challenge.rw_wo0041_01.row.prog w) A (call (.ref f) args) Q E s := by
  refine wpAny_call ?_
  have BG := pushX B F hf hke
  refine codeAny_call_function hroom ((X₀.keeps F.keep) _ _ ho) rfl hco hgen rfl (codeRec_of (X₀.keeps F.keep) hcd) (hbind _ _ _ _ ?_)
  refine wpAny_newFunctionEnv_cells hk (kindsX hkind _) fun env' he s' x => ?_
  subst he
  refine ⟨(T.nolimit.keeps F.keep).keeps x.toInCall.keep, codeAny_func ?_⟩
  obtain ⟨h₁, tk, rfl, _⟩ := x.done
  obtain ⟨cells, NC, Y⟩ := Cl.news (h₀ := s.heap) (Nat.le_refl _) fun n c hm => ⟨x.cell n c (lookup_of_mem_nodup (cellsFrom_names scope.names 0 (s.heap.objs.size + 1) [] [] rfl ▸ hnd) hm), x.above n c hm⟩
  refine wpAny_mono (h s.heap s.heap.objs.size h₁ tk cells rfl ⟨x.toInCall.ns, x.toInCall.keep, Nat.le_refl _⟩ NC Y ⟨hA, BG.stays, BG.frames⟩ (X₀.keeps F.keep) (T.keeps F.keep)) (fun fl s' hl => ?_) fun _ _ y => y.elim
  obtain ⟨_, _, F', k⟩ := hl
  exact k F'.keep
end
/-- a call by its spec -/
theorem use {w : World} {mean : ExcName → Option Value} {mg mb : Str → Option Value} {f : Addr} {vs : List Value} {d u : Nat} {Pre : Heap → Prop} {Post : Heap → Heap → Value → Prop} {dp un : Nat} {gd : Option (List Code)} {cn : Str} {cs : Scope} {a : Addr} {ccd : Value} {cl : List (Str × Addr)} {outer : List Env}
    {A₀ : Around} {base h₀ : Heap} {L : Addr} {m : Str → Option Value} {s : Shared} {Q E : Value → Shared → Prop} {news : List (Addr × Obj)} (S : Spec f vs d u Pre Post)
    (B : Below A₀ base outer h₀) (F : Fr h₀ L s.heap m) (X : (hd.heap_39 w.params).In h₀) (T : Top hd.view_39 LS mean mg mb h₀) (N : News h₀ L s.heap news) (hk : cs.kind = .function) (hd : dp + d < recursionLimit) (hu : un + u < cLine) (hp : Pre s.heap)
    (h : ∀ v h' tk', Fr h₀ L h' m → News h₀ L h' news → s.heap.StaysIn h' → Post s.heap h' v → Q v { s with heap := h', toks := tk' }) :
    wpAny (model PySem.Challenge.rw_wo0041_01.row.prog w) (ktrTop dp un gd cn cs L a ccd cl outer) (call (.ref f) vs) Q E s := by
  refine S w mean mg mb dp un gd cn cs a ccd cl outer A₀ base h₀ L m s Q E B F X T hk hd hu hp (fun v h' tk' st po => h v h' tk' ?_ ?_ st po)
  · obtain ⟨oL, es, ep, hL, hLd, hLk, hLf⟩ := F.ns
    exact ⟨⟨oL, es, ep, st L oL hL, hLd, hLk, hLf⟩, fun b o e => st b o (F.keep b o e), F.above⟩
  · exact fun p hp => ⟨st _ _ (N p hp).1, (N p hp).2⟩
/-- what a statement hands on: its continuation as a letter -/
noncomputable def KNext (R : Flow → Shared → Prop) (fl : Flow) (s' : Shared) : Prop := R fl s'
noncomputable def goesOn : Flow → Bool | .next => true | _ => false
structure SeqK (M : Model) (A : Around) (rest : List Stmt) (env : Env) (Q : Flow → Shared → Prop) (E : Value → Shared → Prop) (R : Flow → Shared → Prop) : Prop where
  on : ∀ s', wpAny M A (execs rest env) Q E s' → R .next s'
  off : ∀ fl s', goesOn fl = false → Q fl s' → R fl s'
theorem seq_gen {M : Model} {A : Around} {st : Stmt} {rest : List Stmt} {env : Env} {Q : Flow → Shared → Prop} {E : Value → Shared → Prop} {s : Shared}
    (h : ∀ R, SeqK M A rest env Q E R → wpAny M A (exec st env) (KNext R) E s) : wpAny M A (execs (st :: rest) env) Q E s :=
  wpAny_execs_cons (h (fun f s' => match f with | .next => wpAny M A (execs rest env) Q E s' | f => Q f s') ⟨fun _ h => h, fun fl s' e h => by cases fl <;> first | exact h | cases e⟩)
theorem seq_on {M : Model} {A : Around} {rest : List Stmt} {env : Env} {Q : Flow → Shared → Prop} {E : Value → Shared → Prop} {R : Flow → Shared → Prop} {s' : Shared} (K : SeqK M A rest env Q E R)
    (h : wpAny M A (execs rest env) Q E s') : KNext R .next s' := K.on s' h
theorem seq_off {M : Model} {A : Around} {rest : List Stmt} {env : Env} {Q : Flow → Shared → Prop} {E : Value → Shared → Prop} {R : Flow → Shared → Prop} {fl : Flow} {s' : Shared} (K : SeqK M A rest env Q E R) (e : goesOn fl = false)
    (h : Q fl s') : KNext R fl s' := K.off fl s' e h
theorem gen_toks {α : Type} {M : Model} {A : Around} {x : Sem α} {Q : α → Shared → Prop} {E : Value → Shared → Prop} {s : Shared} (h : ∀ t, wpAny M A x Q E { s with toks := t }) : wpAny M A x Q E s := h s.toks
theorem enumI {p : Int → Prop} (n : Nat) (h : ∀ k : Nat, k < n → p (k : Int)) {x : Int} (h0 : 0 ≤ x) (h1 : x < n) : p x := by
  have := h x.toNat (by omega)
  rwa [Int.toNat_of_nonneg h0] at this
theorem enumZ12 {x : Int} (h0 : 0 ≤ x) (h1 : x < 12) : x = 0 ∨ x = 1 ∨ x = 2 ∨ x = 3 ∨ x = 4 ∨ x = 5 ∨ x = 6 ∨ x = 7 ∨ x = 8 ∨ x = 9 ∨ x = 10 ∨ x = 11 := enumI (p := fun x => x = 0 ∨ x = 1 ∨ x = 2 ∨ x = 3 ∨ x = 4 ∨ x = 5 ∨ x = 6 ∨ x = 7 ∨ x = 8 ∨ x = 9 ∨ x = 10 ∨ x = 11) 12 (by decide) h0 h1
theorem enumZ10 {x : Int} (h0 : 0 ≤ x) (h1 : x < 10) : x = 0 ∨ x = 1 ∨ x = 2 ∨ x = 3 ∨ x = 4 ∨ x = 5 ∨ x = 6 ∨ x = 7 ∨ x = 8 ∨ x = 9 := enumI (p := fun x => x = 0 ∨ x = 1 ∨ x = 2 ∨ x = 3 ∨ x = 4 ∨ x = 5 ∨ x = 6 ∨ x = 7 ∨ x = 8 ∨ x = 9) 10 (by decide) h0 h1
theorem enumZ7 {x : Int} (h0 : 0 ≤ x) (h1 : x < 7) : x = 0 ∨ x = 1 ∨ x = 2 ∨ x = 3 ∨ x = 4 ∨ x = 5 ∨ x = 6 := enumI (p := fun x => x = 0 ∨ x = 1 ∨ x = 2 ∨ x = 3 ∨ x = 4 ∨ x = 5 ∨ x = 6) 7 (by decide) h0 h1
theorem enumP10 {x : Int} (h0 : 1 ≤ x) (h1 : x < 10) : x = 1 ∨ x = 2 ∨ x = 3 ∨ x = 4 ∨ x = 5 ∨ x = 6 ∨ x = 7 ∨ x = 8 ∨ x = 9 := enumI (p := fun x => 1 ≤ x → x = 1 ∨ x = 2 ∨ x = 3 ∨ x = 4 ∨ x = 5 ∨ x = 6 ∨ x = 7 ∨ x = 8 ∨ x = 9) 10 (by decide) (Int.le_trans (by decide) h0) h1 h0
theorem enumP8 {x : Int} (h0 : 1 ≤ x) (h1 : x < 8) : x = 1 ∨ x = 2 ∨ x = 3 ∨ x = 4 ∨ x = 5 ∨ x = 6 ∨ x = 7 := enumI (p := fun x => 1 ≤ x → x = 1 ∨ x = 2 ∨ x = 3 ∨ x = 4 ∨ x = 5 ∨ x = 6 ∨ x = 7) 8 (by decide) (Int.le_trans (by decide) h0) h1 h0
theorem enumP7 {x : Int} (h0 : 1 ≤ x) (h1 : x < 7) : x = 1 ∨ x = 2 ∨ x = 3 ∨ x = 4 ∨ x = 5 ∨ x = 6 := enumI (p := fun x => 1 ≤ x → x = 1 ∨ x = 2 ∨ x = 3 ∨ x = 4 ∨ x = 5 ∨ x = 6) 7 (by decide) (Int.le_trans (by decide) h0) h1 h0
theorem enumN6 : ∀ {n : Nat}, n < 6 → n = 0 ∨ n = 1 ∨ n = 2 ∨ n = 3 ∨ n = 4 ∨ n = 5 := by decide
end SB41
section SC1
theorem nilC1 : True := by
  k_with_none
  w_top off
  trivial
theorem mul_spec (x y : Int) (tx ty : Tok) (hx : PySem.IntMulOk x y) : Spec 63 [.int x tx, .int y ty] 2 12 (fun _ => True) (fun _ _ v => ∃ t, v = .int (x * y) t) := by
  intro w mean mg mb dp un gd cn cs a ccd cl outer A₀ base h₀ L m s Q E B F X T hk hd hu hp hret
  k_dflt (refine' enter [(Str.ofString "a", .int x tx), (Str.ofString "b", .int y ty)] B F X T rfl rfl hk ?k6 ?k7 ?k8 ?k9 ?kB ?_ ?c2 ?c3 ?c4 ?c5; (case k6 => k_is); (case k7 => k_is); (case k8 => ktr_room); (case k9 => exact BindsTo.of_eq rfl); (case c5 => decide); (case kB => exact locs rfl); (case c2 => exact rfl); (case c3 => exact rfl); (case c4 => exact rfl); k_whole; intro g L' h' tk' eg F' N' B' X' T'; (try dsimp only))
  (try rw [← eg] at hp); rw [← eg] at hret
  clear B F X T eg
  (try k_unmd)
  k_fold
  k_steps
  all_goals (dsimp only; exact Back.ret F' fun st => hret _ _ _ st ⟨_, rfl⟩)
theorem add_spec (x y : Int) (tx ty : Tok) : Spec 42 [.int x tx, .int y ty] 2 12 (fun _ => True) (fun _ _ v => ∃ t, v = .int (x + y) t) := by
  intro w mean mg mb dp un gd cn cs a ccd cl outer A₀ base h₀ L m s Q E B F X T hk hd hu hp hret
  k_dflt (refine' enter [(Str.ofString "a", .int x tx), (Str.ofString "b", .int y ty)] B F X T rfl rfl hk ?k6 ?k7 ?k8 ?k9 ?kB ?_ ?c2 ?c3 ?c4 ?c5; (case k6 => k_is); (case k7 => k_is); (case k8 => ktr_room); (case k9 => exact BindsTo.of_eq rfl); (case c5 => decide); (case kB => exact locs rfl); (case c2 => exact rfl); (case c3 => exact rfl); (case c4 => exact rfl); k_whole; intro g L' h' tk' eg F' N' B' X' T'; (try dsimp only))
  (try rw [← eg] at hp); rw [← eg] at hret
  clear B F X T eg
  (try k_unmd)
  k_fold
  k_steps
  all_goals (dsimp only; exact Back.ret F' fun st => hret _ _ _ st ⟨_, rfl⟩)
theorem le_spec (x y : Int) (tx ty : Tok) : Spec 35 [.int x tx, .int y ty] 2 12 (fun _ => True) (fun _ _ v => v = .bool (decide (x ≤ y))) := by
  intro w mean mg mb dp un gd cn cs a ccd cl outer A₀ base h₀ L m s Q E B F X T hk hd hu hp hret
  k_dflt (refine' enter [(Str.ofString "a", .int x tx), (Str.ofString "b", .int y ty)] B F X T rfl rfl hk ?k6 ?k7 ?k8 ?k9 ?kB ?_ ?c2 ?c3 ?c4 ?c5; (case k6 => k_is); (case k7 => k_is); (case k8 => ktr_room); (case k9 => exact BindsTo.of_eq rfl); (case c5 => decide); (case kB => exact locs rfl); (case c2 => exact rfl); (case c3 => exact rfl); (case c4 => exact rfl); k_whole; intro g L' h' tk' eg F' N' B' X' T'; (try dsimp only))
  (try rw [← eg] at hp); rw [← eg] at hret
  clear B F X T eg
  (try k_unmd)
  k_fold
  k_steps
  all_goals (dsimp only; exact Back.ret F' fun st => hret _ _ _ st rfl)
theorem nt_spec (x : Int) (tx : Tok) : Spec 80 [.int x tx] 2 12 (fun _ => True) (fun _ _ v => v = .bool (decide (256 ≤ x))) := by
  intro w mean mg mb dp un gd cn cs a ccd cl outer A₀ base h₀ L m s Q E B F X T hk hd hu hp hret
  k_dflt (refine' enter [(Str.ofString "x", .int x tx)] B F X T rfl rfl hk ?k6 ?k7 ?k8 ?k9 ?kB ?_ ?c2 ?c3 ?c4 ?c5; (case k6 => k_is); (case k7 => k_is); (case k8 => ktr_room); (case k9 => exact BindsTo.of_eq rfl); (case c5 => decide); (case kB => exact locs rfl); (case c2 => exact rfl); (case c3 => exact rfl); (case c4 => exact rfl); k_whole; intro g L' h' tk' eg F' N' B' X' T'; (try dsimp only))
  (try rw [← eg] at hp); rw [← eg] at hret
  clear B F X T eg
  (try k_unmd)
  k_fold
  k_steps
  all_goals (dsimp only; exact Back.ret F' fun st => hret _ _ _ st rfl)
theorem eof_spec (x : Int) (tx : Tok) : Spec 87 [.int x tx] 2 12 (fun _ => True) (fun _ _ v => v = .bool (x == 0)) := by
  intro w mean mg mb dp un gd cn cs a ccd cl outer A₀ base h₀ L m s Q E B F X T hk hd hu hp hret
  k_dflt (refine' enter [(Str.ofString "x", .int x tx)] B F X T rfl rfl hk ?k6 ?k7 ?k8 ?k9 ?kB ?_ ?c2 ?c3 ?c4 ?c5; (case k6 => k_is); (case k7 => k_is); (case k8 => ktr_room); (case k9 => exact BindsTo.of_eq rfl); (case c5 => decide); (case kB => exact locs rfl); (case c2 => exact rfl); (case c3 => exact rfl); (case c4 => exact rfl); k_whole; intro g L' h' tk' eg F' N' B' X' T'; (try dsimp only))
  (try rw [← eg] at hp); rw [← eg] at hret
  clear B F X T eg
  (try k_unmd)
  k_fold
  k_steps
  all_goals (dsimp only; exact Back.ret F' fun st => hret _ _ _ st rfl)
theorem mod_spec (x y : Int) (tx ty : Tok) (hy : 0 < y) : Spec 56 [.int x tx, .int y ty] 2 12 (fun _ => True) (fun _ _ v => ∃ t, v = .int (Int.fmod x y) t) := by
  intro w mean mg mb dp un gd cn cs a ccd cl outer A₀ base h₀ L m s Q E B F X T hk hd hu hp hret
  k_dflt (refine' enter [(Str.ofString "a", .int x tx), (Str.ofString "b", .int y ty)] B F X T rfl rfl hk ?k6 ?k7 ?k8 ?k9 ?kB ?_ ?c2 ?c3 ?c4 ?c5; (case k6 => k_is); (case k7 => k_is); (case k8 => ktr_room); (case k9 => exact BindsTo.of_eq rfl); (case c5 => decide); (case kB => exact locs rfl); (case c2 => exact rfl); (case c3 => exact rfl); (case c4 => exact rfl); k_whole; intro g L' h' tk' eg F' N' B' X' T'; (try dsimp only))
  (try rw [← eg] at hp); rw [← eg] at hret
  clear B F X T eg
  (try k_unmd)
  k_fold
  k_steps
  all_goals (dsimp only; exact Back.ret F' fun st => hret _ _ _ st ⟨_, rfl⟩)
theorem floordiv_spec (x y : Int) (tx ty : Tok) (hy : 0 < y) (hy2 : y < 1073741824) : Spec 49 [.int x tx, .int y ty] 2 12 (fun _ => True) (fun _ _ v => ∃ t, v = .int (Int.fdiv x y) t) := by
  intro w mean mg mb dp un gd cn cs a ccd cl outer A₀ base h₀ L m s Q E B F X T hk hd hu hp hret
  k_dflt (refine' enter [(Str.ofString "a", .int x tx), (Str.ofString "b", .int y ty)] B F X T rfl rfl hk ?k6 ?k7 ?k8 ?k9 ?kB ?_ ?c2 ?c3 ?c4 ?c5; (case k6 => k_is); (case k7 => k_is); (case k8 => ktr_room); (case k9 => exact BindsTo.of_eq rfl); (case c5 => decide); (case kB => exact locs rfl); (case c2 => exact rfl); (case c3 => exact rfl); (case c4 => exact rfl); k_whole; intro g L' h' tk' eg F' N' B' X' T'; (try dsimp only))
  (try rw [← eg] at hp); rw [← eg] at hret
  clear B F X T eg
  (try k_unmd)
  k_fold
  k_steps
  all_goals (dsimp only; exact Back.ret F' fun st => hret _ _ _ st ⟨_, rfl⟩)
theorem ipow_spec (x y : Int) (tx ty : Tok) (hy : 0 ≤ y) (hy2 : y ≤ 1000) (hx : x.natAbs < 2 ^ 64) : Spec 70 [.int x tx, .int y ty] 2 12 (fun _ => True) (fun _ _ v => ∃ t, v = .int (x ^ y.toNat) t) := by
  intro w mean mg mb dp un gd cn cs a ccd cl outer A₀ base h₀ L m s Q E B F X T hk hd hu hp hret
  k_dflt (refine' enter [(Str.ofString "a", .int x tx), (Str.ofString "b", .int y ty)] B F X T rfl rfl hk ?k6 ?k7 ?k8 ?k9 ?kB ?_ ?c2 ?c3 ?c4 ?c5; (case k6 => k_is); (case k7 => k_is); (case k8 => ktr_room); (case k9 => exact BindsTo.of_eq rfl); (case c5 => decide); (case kB => exact locs rfl); (case c2 => exact rfl); (case c3 => exact rfl); (case c4 => exact rfl); k_whole; intro g L' h' tk' eg F' N' B' X' T'; (try dsimp only))
  (try rw [← eg] at hp); rw [← eg] at hret
  clear B F X T eg
  (try k_unmd)
  k_fold
  k_with "inplaceOp Pow int int" => (refine ipow_int_small (by omega) (by omega) (by assumption) ?_)
  k_steps
  k_with_none
  all_goals (dsimp only; exact Back.ret (by assumption) fun st => hret _ _ _ st ⟨_, rfl⟩)
noncomputable def anyEq (l : List Int) (x : Int) : Bool := l.any fun z => z == x
noncomputable def excessP (x y : Int) (fs bs : List Int) : Int := (if anyEq fs x then 1 else 0) + (if Int.fmod x y == 0 && anyEq bs (Int.fdiv x y) then 1 else 0) - (if anyEq bs x then 1 else 0)
theorem excess_spec (x y : Int) (tx ty : Tok) (fl bl : Addr) (fv bv : List Value) (fs bs : List Int) (hy : 0 < y) (hy2 : y ≤ 3) : Spec 161 [.int x tx, .ref fl, .ref bl, .int y ty] 2 12 (fun h => h.IsList fl fv.toArray ∧ IntsAre fv fs ∧ h.IsList bl bv.toArray ∧ IntsAre bv bs ∧ fs.length < 100 ∧ bs.length < 100)
    (fun _ _ v => ∃ t, v = .int (excessP x y fs bs) t) := by
  intro w mean mg mb dp un gd cn cs a ccd cl outer A₀ base h₀ L m s Q E B F X T hk hd hu hp hret
  k_dflt (refine' enter [(Str.ofString "number", .int x tx), (Str.ofString "free", .ref fl), (Str.ofString "bounded", .ref bl), (Str.ofString "bound", .int y ty)] B F X T rfl rfl hk ?k6 ?k7 ?k8 ?k9 ?kB ?_ ?c2 ?c3 ?c4 ?c5; (case k6 => k_is); (case k7 => k_is); (case k8 => ktr_room); (case k9 => exact BindsTo.of_eq rfl); (case c5 => decide); (case kB => exact locs rfl); (case c2 => exact rfl); (case c3 => exact rfl); (case c4 => exact rfl); k_whole; intro g L' h' tk' eg F' N' B' X' T'; (try dsimp only))
  (try rw [← eg] at hp); rw [← eg] at hret
  clear B F X T eg
  (try k_unmd)
  k_fold
  obtain ⟨hl1, hi1, hl2, hi2, hb1, hb2⟩ := hp
  k_steps
  · have e : (Int.fmod x y == 0) = true := beq_iff_eq.mpr (by assumption)
    refine Back.ret (by assumption) fun st => hret _ _ _ st ⟨_, congrArg (fun z => Value.int z _) ?_⟩
    unfold excessP anyEq
    rw [e, Bool.true_and]
  · have e : (Int.fmod x y == 0) = false := beq_eq_false_iff_ne.mpr (by assumption)
    refine Back.ret (by assumption) fun st => hret _ _ _ st ⟨_, congrArg (fun z => Value.int z _) ?_⟩
    unfold excessP anyEq
    rw [e, Bool.false_and]
end SC1
section SC2
local macro_rules | `(tactic| walk_at "zz0") => `(tactic| skip)
theorem nilC2 : True := by
  k_with_none
  w_top off
  trivial
theorem mulOk {x y : Int} (hx : x.natAbs < 2 ^ 1000) (hy : y.natAbs < 2 ^ 1000) : PySem.IntMulOk x y := by
  have bits : ∀ z : Int, z.natAbs < 2 ^ 1000 → Builtin.Int.intBits z ≤ 1000 := fun z hz => by
    unfold Builtin.Int.intBits
    split
    · exact Nat.zero_le _
    · have : z.natAbs.log2 < 1000 := by
        rcases Nat.eq_zero_or_pos z.natAbs with h0 | hp
        · rw [h0]; decide
        · exact (Nat.log2_lt (Nat.ne_of_gt hp)).mpr hz
      omega
  have h1 := bits x hx
  have h2 := bits y hy
  unfold PySem.IntMulOk Builtin.Int.intTooBig
  have : ¬ ((((Builtin.Int.intBits x : Nat) : Int) + ((Builtin.Int.intBits y : Nat) : Int)) > ((bitsLine : Nat) : Int)) := by
    have : (2000 : Nat) ≤ bitsLine := by decide
    omega
  simp [this]
/-- small enough -/
noncomputable def fit (x : Int) : Bool := decide (x.natAbs < 2 ^ 1000)
theorem fit_lt {x : Int} (h : fit x = true) : x.natAbs < 2 ^ 1000 := of_decide_eq_true h
theorem fitMul {x y : Int} (hx : fit x = true) (hy : fit y = true) : PySem.IntMulOk x y := mulOk (fit_lt hx) (fit_lt hy)
/-- _law_further's loop -/
noncomputable def furtherF (limit step : Int) : Nat → Int → Int → Option Int
  | 0, _, _ => none
  | n + 1, total, power => if power ≤ limit then (if fit power then furtherF limit step n (total + power) (power * step) else none) else some total
local macro_rules | `(tactic| walk_at "M call") => `(tactic| (k_dflt (refine' use ?hS ?hB ?hF ?hX ?hT ?hN ?hk ?hd ?hu ?hp ?_; (case hS => first | exact mul_spec _ _ _ _ (by first | assumption | k_extra "side") | exact add_spec _ _ _ _ | exact le_spec _ _ _ _); (case hB => assumption); (case hF => assumption); (case hX => assumption); (case hT => assumption); (case hN => assumption); (case hk => rfl); (case hd => ktr_room); (case hu => ktr_units); (case hp => trivial); k_whole; intro v h' tk' F' N' st po; first | (obtain ⟨_, e⟩ := po; subst e) | (have e := po; subst e; try clear po); clear st; (try dsimp only); (try k_fold))))
theorem further_on {limit step r : Int} {k : Nat} {total power : Int} (h : furtherF limit step k total power = some r) (hl : power ≤ limit) : fit power = true ∧ ∃ k', k = k' + 1 ∧ furtherF limit step k' (total + power) (power * step) = some r := by
  cases k with
  | zero => cases h
  | succ k =>
    unfold furtherF at h
    rw [if_pos hl] at h
    cases hf : fit power with
    | false => rw [hf] at h; cases h
    | true => rw [hf] at h; exact ⟨rfl, k, rfl, h⟩
theorem further_off {limit step r : Int} {k : Nat} {total power : Int} (h : furtherF limit step k total power = some r) (hl : ¬ power ≤ limit) : total = r := by
  cases k with
  | zero => cases h
  | succ k =>
    unfold furtherF at h
    rw [if_neg hl] at h
    exact Option.some.inj h
local macro_rules | `(tactic| walk_at "KswEnd") => `(tactic| k_extra "WE")
local macro_rules | `(tactic| walk_at "exec While Call cons nil") => `(tactic| k_extra "W")
local macro_rules | `(tactic| walk_at "call ref") => `(tactic| walk_at "M call")
theorem further_spec (step limit : Int) (ts tl : Tok) (n : Nat) (r : Int) (hs : fit step = true) (hr : furtherF limit step n 0 (step * step) = some r) : Spec 128 [.int step ts, .int limit tl] 4 40 (fun _ => True) (fun _ _ v => ∃ t, v = .int r t) := by
  intro w mean mg mb dp un gd cn cs a ccd cl outer A₀ base h₀ L m s Q E B F X T hk hd hu hp hret
  k_dflt (refine' enter [(Str.ofString "step", .int step ts), (Str.ofString "limit", .int limit tl)] B F X T rfl rfl hk ?k6 ?k7 ?k8 ?k9 ?kB ?_ ?c2 ?c3 ?c4 ?c5; (case k6 => k_is); (case k7 => k_is); (case k8 => ktr_room); (case k9 => exact BindsTo.of_eq rfl); (case c5 => decide); (case kB => exact locs rfl); (case c2 => exact rfl); (case c3 => exact rfl); (case c4 => exact rfl); k_whole; intro g L' h' tk' eg F' N' B' X' T'; (try dsimp only))
  (try rw [← eg] at hp); rw [← eg] at hret
  clear B F X T eg
  (try k_unmd)
  k_fold
  have hm : PySem.IntMulOk step step := fitMul hs hs
  k_with "W" => ((rename Fr _ _ _ _ => lF); (rename News _ _ _ _ => lN); (with_unfolding_all refine' ksw_while (σ := Int × Int × Nat × Tok × Tok) (fun _ => []) (fun c => [(Str.ofString "total", .int c.1 c.2.2.2.1), (Str.ofString "power", .int c.2.1 c.2.2.2.2)]) (fun _ => True) [] (fun c => furtherF limit step c.2.2.1 c.1 c.2.1 = some r) (fun c => c.2.2.1) (0, step * step, n, _, _) lF lN ?kf ?kk ?kp ?_); (case kf => trivial); (case kp => exact hr); (case kk => kst_all); rintro ⟨total, power, k, t1, t2⟩ u h tk _ hP F N; (try dsimp only at hP F); (try k_fold))
  k_with "side" => exact fitMul (further_on (by assumption) (by assumption)).1 hs
  k_steps
  k_with_none
  · obtain ⟨_, k', e, hq⟩ := further_on (by assumption) (by assumption)
    refine' ksw_end (total + power, power * step, k', _, _) (by assumption) (by assumption) ?c1 trivial ?c2 ?c3 hq ?c4
    case c2 => kst_all
    case c1 => kst_in
    case c3 => (intro z h2 h3; simp only [List.forall_mem_cons, List.not_mem_nil, false_implies, implies_true, and_true, ne_eq] at h2; simp [kstB, h2])
    case c4 => dsimp only; omega
  · have e := further_off (by assumption) (by assumption)
    subst e
    dsimp only; exact Back.ret (by assumption) fun st => hret _ _ _ st ⟨_, rfl⟩
end SC2
section SC3
local macro_rules | `(tactic| walk_at "zz0") => `(tactic| skip)
local macro_rules | `(tactic| walk_at "zz1") => `(tactic| skip)
local macro_rules | `(tactic| walk_at "zz2") => `(tactic| skip)
local macro_rules | `(tactic| walk_at "zz3") => `(tactic| skip)
local macro_rules | `(tactic| walk_at "zz4") => `(tactic| skip)
local macro_rules | `(tactic| walk_at "zz5") => `(tactic| skip)
theorem nilC3 : True := by
  k_with_none
  w_top off
  trivial
/-- item by item -/
inductive Each {α β : Type} (R : α → β → Prop) : List α → List β → Prop
  | nil : Each R [] []
  | cons {a : α} {b : β} {as : List α} {bs : List β} : R a b → Each R as bs → Each R (a :: as) (b :: bs)
theorem Each.snoc {α β : Type} {R : α → β → Prop} {a : α} {b : β} (h : R a b) : ∀ {as : List α} {bs : List β}, Each R as bs → Each R (as ++ [a]) (bs ++ [b])
  | _, _, .nil => .cons h .nil
  | _, _, .cons x r => .cons x (Each.snoc h r)
theorem Each.strs {g : Int → Str} : ∀ {ks : List Int} {ys : List Value}, Each (fun k y => ∃ t, y = Value.str (g k) t) ks ys → StrsAre ys (ks.map g)
  | _, _, .nil => .nil
  | _, _, .cons ⟨t, e⟩ r => e ▸ .cons _ t (Each.strs r)
theorem Each.ints {g : Int → Int} : ∀ {ks : List Int} {ys : List Value}, Each (fun k y => ∃ t, y = Value.int (g k) t) ks ys → IntsAre ys (ks.map g)
  | _, _, .nil => .nil
  | _, _, .cons ⟨t, e⟩ r => e ▸ .cons _ t (Each.ints r)
section
variable {prog : Program} {w : World} {A : Around} {h₀ : Heap} {L : Addr} {m : Str → Option Value} {env : Env} {elt : Expr} {x : Str} {scope : Scope} {cl : List (Str × Addr)} {s : Shared} {S : List (Addr × Obj) → Prop} {P : Nat → Value → Prop} {Fin : List Value → List (Addr × Obj) → Prop} {news : List (Addr × Obj)}
theorem comp_rest {n : Nat} {ks : List Int} (R : Int → Value → Prop) (hks : ks.length = n) (hP : ∀ i v, i < n → P i v → ∃ k t, ks[i]? = some k ∧ v = .int k t)
    (turn : ∀ k t I oI C oC D m₂ ys h tk (E' : Value → Shared → Prop), k ∈ ks → LCg.NsObj oC m₂ → m₂ x = some (.int k t) → Fr h₀ L h m → News h₀ L h ((I, oI) :: (C, oC) :: (D, LCg.lst ys) :: news) → LCg.Off3 I C D news → ((@Ne Nat I C) ∧ (@Ne Nat I D) ∧ (@Ne Nat C D)) →
      wpAny (model prog w) A (eval elt (compEnvC scope cl C env)) (LCg.CompEnd h₀ L m { s with heap := h, toks := tk } I oI C oC D (LCg.lst ys) S (fun y news' => news' = news ∧ R k y)) E' { s with heap := h, toks := tk })
    (fin : ∀ ys, Each R ks ys → Fin ys news) : LCg.CompRest prog w A h₀ L m env elt x scope cl s S P Fin n 0 [] news := by
  have key : ∀ (j i : Nat) (ys : List Value), i + j = n → Each R (ks.take i) ys → LCg.CompRest prog w A h₀ L m env elt x scope cl s S P Fin j i ys news := by
    intro j
    induction j with
    | zero =>
      intro i ys hi hy
      have e : i = ks.length := by omega
      subst e
      rw [List.take_length] at hy
      exact LCg.CompRest.zero (fin ys hy)
    | succ j ih =>
      intro i ys hi hy
      refine LCg.CompRest.succ ?_
      intro v I oI C oC D m₂ h tk E' hv hC hx F N off ne
      obtain ⟨k, t, hk, hv'⟩ := hP i v (by omega) hv
      rw [hv'] at hx
      refine wpAny_mono (turn k t I oI C oC D m₂ ys h tk E' (List.mem_of_getElem? hk) hC hx F N off ne) (fun y s₂ hq => ?_) fun _ _ e => e
      obtain ⟨h', tk', nw, e, F', N', off', hS, hn, hr⟩ := hq
      rw [hn] at N' off' hS
      refine ⟨h', tk', news, e, F', N', off', hS, ?_⟩
      refine ih (i + 1) _ (by omega) ?_
      rw [List.take_add_one, hk]
      exact Each.snoc hr hy
  exact key n 0 [] (by omega) (by simp only [List.take_zero]; exact .nil)
theorem comp_range {n : Nat} {a : Int} (R : Int → Value → Prop)
    (turn : ∀ k t I oI C oC D m₂ ys h tk (E' : Value → Shared → Prop), a ≤ k → k < a + (n : Int) → LCg.NsObj oC m₂ → m₂ x = some (.int k t) → Fr h₀ L h m → News h₀ L h ((I, oI) :: (C, oC) :: (D, LCg.lst ys) :: news) → LCg.Off3 I C D news → ((@Ne Nat I C) ∧ (@Ne Nat I D) ∧ (@Ne Nat C D)) →
      wpAny (model prog w) A (eval elt (compEnvC scope cl C env)) (LCg.CompEnd h₀ L m { s with heap := h, toks := tk } I oI C oC D (LCg.lst ys) S (fun y news' => news' = news ∧ R k y)) E' { s with heap := h, toks := tk })
    (fin : ∀ ys, Each R (rangeKs a n) ys → Fin ys news) : LCg.CompRest prog w A h₀ L m env elt x scope cl s S (fun i v => ∃ t, v = .int (a + (i : Int)) t) Fin n 0 [] news :=
  comp_rest (ks := rangeKs a n) R (rangeKs_length a n) (fun i v hi hv => by
    obtain ⟨t, e⟩ := hv
    exact ⟨a + (i : Int), t, by simp [rangeKs, hi], e⟩)
    (fun k t I oI C oC D m₂ ys h tk E' hk hC hx F N off ne => turn k t I oI C oC D m₂ ys h tk E' (mem_rangeKs hk).1 (mem_rangeKs hk).2 hC hx F N off ne) fin
theorem comp_list {vs : List Value} {ns : List Int} (R : Int → Value → Prop) (hi : IntsAre vs ns)
    (turn : ∀ k t I oI C oC D m₂ ys h tk (E' : Value → Shared → Prop), k ∈ ns → LCg.NsObj oC m₂ → m₂ x = some (.int k t) → Fr h₀ L h m → News h₀ L h ((I, oI) :: (C, oC) :: (D, LCg.lst ys) :: news) → LCg.Off3 I C D news → ((@Ne Nat I C) ∧ (@Ne Nat I D) ∧ (@Ne Nat C D)) →
      wpAny (model prog w) A (eval elt (compEnvC scope cl C env)) (LCg.CompEnd h₀ L m { s with heap := h, toks := tk } I oI C oC D (LCg.lst ys) S (fun y news' => news' = news ∧ R k y)) E' { s with heap := h, toks := tk })
    (fin : ∀ ys, Each R ns ys → Fin ys news) : LCg.CompRest prog w A h₀ L m env elt x scope cl s S (fun i v => vs.toArray[i]? = some v) Fin vs.toArray.size 0 [] news :=
  comp_rest (ks := ns) R (by rw [List.size_toArray]; exact hi.length.symm) (fun i v _ hv => by
    obtain ⟨k, t, e, hk⟩ := IntsAre.at hi i v (by simpa using hv)
    exact ⟨k, t, hk, e⟩) turn fin
end
noncomputable def pieceS (p k : Int) : Str := Str.ofString "+x**" ++ (toString (p * k) : String)
noncomputable def factorS (p hi : Int) : Str := Str.ofString "*(1" ++ Txt.join (Str.ofString "") ((rangeKs 1 hi.toNat).map (pieceS p)) ++ Str.ofString ")"
theorem mul_small {p k : Int} (h1 : 1 ≤ p) (h2 : p ≤ 6) (h3 : 1 ≤ k) (h4 : k ≤ 100) : 0 ≤ p * k ∧ p * k ≤ 600 :=
  ⟨Int.mul_nonneg (by omega) (by omega), by have := Int.mul_le_mul h2 h4 (by omega) (by omega); omega⟩
theorem logOk {x : Int} (h0 : 0 ≤ x) (h : x ≤ 100000) : x.natAbs.log2 < 1920 := by
  rcases Nat.eq_zero_or_pos x.natAbs with e | hp
  · rw [e]; decide
  · exact (Nat.log2_lt (Nat.ne_of_gt hp)).mpr (Nat.lt_of_le_of_lt (show x.natAbs ≤ 100000 by omega) (by decide +kernel))
theorem piece_len {p k : Int} (h1 : 1 ≤ p) (h2 : p ≤ 6) (h3 : 1 ≤ k) (h4 : k ≤ 100) : (pieceS p k).length ≤ 8 := by
  have h := mul_small h1 h2 h3 h4
  have := toString_length_le h.1 (k := 4) (by decide) (by omega)
  unfold pieceS
  rw [PySem.strLen_append]
  have e : (Str.ofString "+x**").length = 4 := by decide +kernel
  omega
theorem join_len (sep : Str) (l : List Str) : (Txt.join sep l).length ≤ (l.map (·.length)).sum + l.length * sep.length := by
  show (Builtin.Str.glued sep l).length ≤ _
  rw [StrLaws.glued_eq_join]
  exact StrLaws.join_length_le sep l
theorem join_nil_len (l : List Str) : (Txt.join (Str.ofString "") l).length ≤ (l.map (·.length)).sum := by
  have h := join_len (Str.ofString "") l
  rw [show (Str.ofString "").length = 0 by decide +kernel] at h
  exact h
theorem pieces_len {p hi : Int} (h1 : 1 ≤ p) (h2 : p ≤ 6) (h3 : 0 ≤ hi) (h4 : hi ≤ 8) : (((rangeKs 1 hi.toNat).map (pieceS p)).map (·.length)).sum ≤ 64 := by
  have := sumLen_le_of_bound (pieceS p) 8 (rangeKs 1 hi.toNat) fun k hk => piece_len h1 h2 (mem_rangeKs hk).1 (by have := (mem_rangeKs hk).2; omega)
  rw [rangeKs_length] at this
  omega
theorem factor_len {p hi : Int} (h1 : 1 ≤ p) (h2 : p ≤ 6) (h3 : 0 ≤ hi) (h4 : hi ≤ 8) : (factorS p hi).length ≤ 70 := by
  have h := pieces_len h1 h2 h3 h4
  unfold factorS
  have e1 : (Str.ofString "*(1").length = 3 := by decide +kernel
  have e2 : (Str.ofString ")").length = 1 := by decide +kernel
  have h2 := join_nil_len ((rangeKs 1 hi.toNat).map (pieceS p))
  rw [PySem.strLen_append, PySem.strLen_append]
  omega
local macro_rules | `(tactic| walk_at "binaryOp Add str str") => `(tactic| k_dflt (k_extra "ADD"))
local macro_rules | `(tactic| walk_at "CompSrc") => `(tactic| k_dflt (k_extra "CS"))
local macro_rules | `(tactic| walk_at "call type:str") => `(tactic| k_dflt (k_extra "STR"))
local macro_rules | `(tactic| walk_at "call builtin:str.join") => `(tactic| k_dflt (k_extra "JOIN"))
theorem factor_spec (p hi : Int) (tp th : Tok) (h1 : 1 ≤ p) (h2 : p ≤ 6) (h3 : 0 ≤ hi) (h4 : hi ≤ 8) : Spec 99 [.int p tp, .int hi th] 2 20 (fun _ => True) (fun _ _ v => ∃ t, v = .str (factorS p hi) t) := by
  intro w mean mg mb dp un gd cn cs a ccd cl outer A₀ base h₀ L m s Q E B F X T hk hd hu hp hret
  k_dflt (refine' enterC [(Str.ofString "part", .int p tp), (Str.ofString "highest", .int hi th)] B F X T rfl rfl hk ?k6 ?k7 ?k8 ?k9 ?kB ?kD ?_ ?c2 ?c3 ?c4; (case k6 => k_is); (case k7 => k_is); (case k8 => ktr_room); (case k9 => exact BindsTo.of_eq rfl); (case kB => exact rfl); (case kD => decide +kernel); (case c2 => exact rfl); (case c3 => exact rfl); (case c4 => exact rfl); k_whole; intro g L' h' tk' cells' eg F' N' Y' B' X' T'; k_cells Y'; (try dsimp only))
  (try rw [← eg] at hp); rw [← eg] at hret
  clear B F X T eg
  (try k_unmd)
  k_fold
  k_with "CS" => (refine LCg.CompSrc.range (by rfl) (by k_asm) (by k_asm) (by assumption) (small_one (by omega) (by omega) (by omega) (by omega)) (n := hi.toNat) (by rw [rangeSize_nat]; congr 1; omega) (by rw [PySem.sizeLine_eq]; omega) ?_; intro g'; refine' comp_range (fun k y => ∃ t, y = Value.str (pieceS p k) t) (fun k t I oI C oC D m₂ ys h tk E' hlo hhi hC hx F N off ne => ?_) ?_; (all_goals (try (simp only [LCg.Off3, and_true] at off))); (all_goals (try k_fold)))
  have hJ := Nat.le_trans (join_nil_len _) (pieces_len h1 h2 h3 h4)
  have e1 : (Str.ofString "*(1").length = 3 := by decide +kernel
  have e2 : (Str.ofString ")").length = 1 := by decide +kernel
  have e3 : (Str.ofString "").length = 0 := by decide +kernel
  k_with "STR" => (refine P.str_of_int (have h := mul_small h1 h2 hlo (by omega); logOk h.1 (by omega)) ?_)
  k_with "JOIN" => (refine join_list (by is_list) (Each.strs (by assumption)) (by have := pieces_len h1 h2 h3 h4; simp only [List.length_map, rangeKs_length] at *; rw [e3]; omega) ?_; intro t9 k9)
  have e4 : (Str.ofString "+x**").length = 4 := by decide +kernel
  k_with "ADD" => (refine add_str ?_ (by first
    | (have h := mul_small h1 h2 hlo (by omega); have := toString_length_le h.1 (k := 4) (by decide) (by omega); rw [PySem.sizeLine_eq, e4]; omega)
    | (simp only [PySem.strLen_append, PySem.sizeLine_eq]; omega)); intro t9 k9)
  k_steps
  k_with_none
  exact Back.ret (by assumption) fun st => hret _ _ _ st ⟨_, rfl⟩
end SC3
section SC10a
noncomputable def tabS : List (Str × Int) := [(Str.ofString "!", 54), (Str.ofString "!=", 28), (Str.ofString "%", 24), (Str.ofString "%=", 40), (Str.ofString "&", 19), (Str.ofString "&=", 41), (Str.ofString "(", 7), (Str.ofString ")", 8), (Str.ofString "*", 16), (Str.ofString "**", 35), (Str.ofString "**=", 46), (Str.ofString "*=", 38), (Str.ofString "+", 14), (Str.ofString "+=", 36), (Str.ofString ",", 12), (Str.ofString "-", 15), (Str.ofString "-=", 37), (Str.ofString "->", 51), (Str.ofString ".", 23), (Str.ofString "...", 52), (Str.ofString "/", 17), (Str.ofString "//", 47), (Str.ofString "//=", 48), (Str.ofString "/=", 39), (Str.ofString ":", 11), (Str.ofString ":=", 53), (Str.ofString ";", 13), (Str.ofString "<", 20), (Str.ofString "<<", 33), (Str.ofString "<<=", 44), (Str.ofString "<=", 29), (Str.ofString "=", 22), (Str.ofString "==", 27), (Str.ofString ">", 21), (Str.ofString ">=", 30), (Str.ofString ">>", 34), (Str.ofString ">>=", 45), (Str.ofString "@", 49), (Str.ofString "@=", 50), (Str.ofString "[", 9), (Str.ofString "]", 10), (Str.ofString "^", 32), (Str.ofString "^=", 43), (Str.ofString "{", 25), (Str.ofString "|", 18), (Str.ofString "|=", 42), (Str.ofString "}", 26), (Str.ofString "~", 31)]
@[irreducible] noncomputable def exactP (x : Str) : Option Int := (tabS.find? (fun e => e.1 == x)).map (·.2)
theorem dict71 (P : Params) : ∃ es n, (hd.heap_39 P).lookup 71 = some ⟨.type "dict", none, .dict es n, #[]⟩ ∧ KeysLit P es.toList ∧ Each (fun (e : DictEntry) s => (∃ t, e.key = .str s.1 t) ∧ ∃ u, e.val = .int s.2 u) es.toList tabS := by
  refine ⟨_, _, by with_unfolding_all rfl, ?_, ?_⟩
  · repeat (first | exact True.intro | refine And.intro ⟨_, _, rfl, rfl⟩ ?_)
  · unfold tabS
    repeat (first | exact Each.nil | refine Each.cons ⟨⟨_, rfl⟩, ⟨_, rfl⟩⟩ ?_)
noncomputable def EntR (e : DictEntry) (s : Str × Int) : Prop := (∃ t, e.key = .str s.1 t) ∧ ∃ u, e.val = .int s.2 u
theorem each_find {es : List DictEntry} {ts : List (Str × Int)} (h : Each EntR es ts) (x : Str) : (ts.find? (fun e => e.1 == x) = none ∧ es.find? (fun e => e.key.isStr x) = none) ∨ ∃ e s u, ts.find? (fun e => e.1 == x) = some s ∧ es.find? (fun e => e.key.isStr x) = some e ∧ e.val = .int s.2 u := by
  induction h with
  | nil => exact .inl ⟨rfl, rfl⟩
  | @cons e s es ts h _ ih =>
    obtain ⟨⟨t, hk⟩, u, hv⟩ := h
    have e1 : e.key.isStr x = (s.1 == x) := by rw [hk]; rfl
    simp only [List.find?_cons, e1]
    cases hq : (s.1 == x) with
    | true => exact .inr ⟨e, s, u, rfl, rfl, hv⟩
    | false => exact ih
theorem each_ref {es : List DictEntry} {ts : List (Str × Int)} (h : Each EntR es ts) : es.any (·.refKey) = false := by
  induction h with
  | nil => rfl
  | @cons e s es ts h _ ih =>
    obtain ⟨⟨t, hk⟩, u, hv⟩ := h
    have e1 : e.refKey = false := by unfold DictEntry.refKey; rw [hk]
    rw [List.any_cons, e1, ih]; rfl
theorem exact_ns (P : Params) (x : Str) : (exactP x = none ∧ nsIn (hd.heap_39 P) 71 x = some none) ∨ ∃ v u, exactP x = some v ∧ nsIn (hd.heap_39 P) 71 x = some (some (.int v u)) := by
  obtain ⟨es, n, hl, _, hE⟩ := dict71 P
  have hE : Each EntR es.toList tabS := hE
  unfold nsIn exactP
  rw [hl]
  dsimp only
  rcases each_find hE x with ⟨h1, h2⟩ | ⟨e, s, u, h1, h2, h3⟩
  · left
    rw [h1, h2]
    refine ⟨rfl, ?_⟩
    dsimp only
    rw [each_ref hE]
    rfl
  · right
    refine ⟨s.2, u, ?_, ?_⟩
    · rw [h1]; rfl
    · rw [h2]; dsimp only; rw [h3]
section
variable {w : World} {A : Around} {E : Value → Shared → Prop} {s : Shared} {h₀ : Heap} {L : Addr} {m : Str → Option Value} {x : Str} {t : Tok}
theorem exact_notin {Q : Value → Shared → Prop} (F : Fr h₀ L s.heap m) (X₀ : (hd.heap_39 w.params).In h₀) (h : Q (.bool (!(exactP x).isSome)) { s with toks := s.toks + 1 }) :
    wpAny (model PySem.Challenge.rw_wo0041_01.row.prog w) A (compareOp .NotIn (.str x t) (.ref 71)) Q E s := by
  obtain ⟨es, n, hl, hk, _⟩ := dict71 w.params
  refine wpAny_notIn_of (strKind_is _ w x t) (by decide) (mapOf_K (X₀.keeps F.keep) hl hk) ?_
  rcases exact_ns w.params x with ⟨h1, h2⟩ | ⟨v, u, h1, h2⟩
  · rw [find_K hl h2]; rw [h1] at h; exact h
  · rw [find_K hl h2]; rw [h1] at h; exact h
theorem exact_item {value slice : Expr} {v : Int} {Q : Value → Shared → Prop} (F : Fr h₀ L s.heap m) (X₀ : (hd.heap_39 w.params).In h₀) (e : exactP x = some v) (h : ∀ u, Q (.int v u) { s with toks := s.toks + 1 })
    (hs : subscripted slice false (.ref 71) (.str x t) = operate [.ref 71, .str x t] (getItem (.ref 71) (.str x t)) := by with_unfolding_all rfl) :
    wpAny (model PySem.Challenge.rw_wo0041_01.row.prog w) A (subscriptTail value slice (.ref 71) (.str x t)) Q E s := by
  obtain ⟨es, n, hl, hk, _⟩ := dict71 w.params
  rcases exact_ns w.params x with ⟨h1, h2⟩ | ⟨v', u, h1, h2⟩
  · rw [h1] at e; cases e
  · rw [h1] at e; cases e
    exact topItem_K F X₀ hl hk h2 (h u) hs
end
@[irreducible] noncomputable def sizeP (x : Str) (p : Int) : Nat → Nat
  | 0 => 0
  | n + 1 => if (exactP (Txt.slice x (some p) (some (p + ((n : Int) + 1))))).isSome then n + 1 else sizeP x p n
@[irreducible] noncomputable def inDig (y : Str) : Bool := !(Builtin.Str.occurrences (Str.ofString "0123456789") y 0 (Str.ofString "0123456789").length 1).isEmpty
@[irreducible] noncomputable def digP (x : Str) (p : Int) : Nat → Int → Int
  | 0, s => s
  | f + 1, s => if p + s < (x.length : Int) then (if inDig (Txt.item x (p + s)) = true then digP x p f (s + 1) else s) else s
noncomputable def symsG (sz : Int → Nat) (ex : Int → Option Int) (isx : Int → Bool) (dg : Int → Int) (it : Int → Option Int) (len : Int) : Nat → Int → Option (List Int)
  | 0, _ => none
  | f + 1, p => if p < len then
      (if 0 < sz p then (ex p).bind fun v => (symsG sz ex isx dg it len f (p + ((sz p : Nat) : Int))).map (v :: ·)
       else if isx p = true then (symsG sz ex isx dg it len f (p + 1)).map (256 :: ·)
       else (it p).bind fun v => (symsG sz ex isx dg it len f (p + dg p)).map ((256 + v) :: ·))
    else some []
@[irreducible] noncomputable def symsP (x : Str) : Nat → Int → Option (List Int) :=
  symsG (fun p => sizeP x p 3) (fun p => exactP (Txt.slice x (some p) (some (p + ((sizeP x p 3 : Nat) : Int))))) (fun p => Txt.item x p == Str.ofString "x") (fun p => digP x p x.length 1) (fun p => PySem.intText? (Txt.slice x (some p) (some (p + digP x p x.length 1)))) (x.length : Int)
theorem symsG_end {sz : Int → Nat} {ex : Int → Option Int} {isx : Int → Bool} {dg : Int → Int} {it : Int → Option Int} {len p : Int} {f : Nat} {r : List Int} (h1 : ¬ p < len) (h : symsG sz ex isx dg it len f p = some r) : r = [] := by
  cases f with
  | zero => cases h
  | succ f => unfold symsG at h; rw [if_neg h1] at h; exact (Option.some.inj h).symm
theorem symsG_tab {sz : Int → Nat} {ex : Int → Option Int} {isx : Int → Bool} {dg : Int → Int} {it : Int → Option Int} {len p : Int} {f : Nat} {r : List Int} (h1 : p < len) (h2 : 0 < sz p) (h : symsG sz ex isx dg it len f p = some r) :
    ∃ f' v r', f = f' + 1 ∧ ex p = some v ∧ symsG sz ex isx dg it len f' (p + ((sz p : Nat) : Int)) = some r' ∧ r = v :: r' := by
  cases f with
  | zero => cases h
  | succ f =>
    unfold symsG at h
    rw [if_pos h1, if_pos h2] at h
    cases hv : ex p with
    | none => rw [hv] at h; cases h
    | some v =>
      rw [hv, Option.bind_some] at h
      obtain ⟨r', h5, h6⟩ := Option.map_eq_some_iff.mp h
      exact ⟨f, v, r', rfl, rfl, h5, h6.symm⟩
theorem symsG_x {sz : Int → Nat} {ex : Int → Option Int} {isx : Int → Bool} {dg : Int → Int} {it : Int → Option Int} {len p : Int} {f : Nat} {r : List Int} (h1 : p < len) (h2 : ¬ 0 < sz p) (h3 : isx p = true) (h : symsG sz ex isx dg it len f p = some r) :
    ∃ f' r', f = f' + 1 ∧ symsG sz ex isx dg it len f' (p + 1) = some r' ∧ r = 256 :: r' := by
  cases f with
  | zero => cases h
  | succ f =>
    unfold symsG at h
    rw [if_pos h1, if_neg h2, if_pos h3] at h
    obtain ⟨r', h5, h6⟩ := Option.map_eq_some_iff.mp h
    exact ⟨f, r', rfl, h5, h6.symm⟩
theorem symsG_int {sz : Int → Nat} {ex : Int → Option Int} {isx : Int → Bool} {dg : Int → Int} {it : Int → Option Int} {len p : Int} {f : Nat} {r : List Int} (h1 : p < len) (h2 : ¬ 0 < sz p) (h3 : isx p = false) (h : symsG sz ex isx dg it len f p = some r) :
    ∃ f' v r', f = f' + 1 ∧ it p = some v ∧ symsG sz ex isx dg it len f' (p + dg p) = some r' ∧ r = (256 + v) :: r' := by
  cases f with
  | zero => cases h
  | succ f =>
    unfold symsG at h
    rw [if_pos h1, if_neg h2, if_neg (by rw [h3]; decide)] at h
    cases hv : it p with
    | none => rw [hv] at h; cases h
    | some v =>
      rw [hv, Option.bind_some] at h
      obtain ⟨r', h5, h6⟩ := Option.map_eq_some_iff.mp h
      exact ⟨f, v, r', rfl, rfl, h5, h6.symm⟩
theorem ints_snoc {us : List Value} {ys : List Int} {v : Int} {t : Tok} (h : IntsAre us ys) : IntsAre (us ++ [.int v t]) (ys ++ [v]) := IntsAre.append h (.cons v t .nil)
theorem size_le (x : Str) (p : Int) : ∀ n, sizeP x p n ≤ n
  | 0 => by unfold sizeP; exact Nat.le_refl _
  | n + 1 => by
    unfold sizeP
    split
    · exact Nat.le_refl _
    · exact Nat.le_succ_of_le (size_le x p n)
theorem size_on {x : Str} {p s : Int} (hs : 0 < s) (h : (exactP (Txt.slice x (some p) (some (p + s)))).isSome = true) : sizeP x p s.toNat = s.toNat := by
  obtain ⟨n, rfl⟩ : ∃ n : Nat, s = (n : Int) + 1 := ⟨(s - 1).toNat, by omega⟩
  rw [show ((n : Int) + 1).toNat = n + 1 by omega]
  unfold sizeP
  rw [if_pos h]
theorem size_off {x : Str} {p s : Int} (hs : 0 < s) (h : (exactP (Txt.slice x (some p) (some (p + s)))).isSome = false) : sizeP x p (s - 1).toNat = sizeP x p s.toNat := by
  obtain ⟨n, rfl⟩ : ∃ n : Nat, s = (n : Int) + 1 := ⟨(s - 1).toNat, by omega⟩
  rw [show ((n : Int) + 1).toNat = n + 1 by omega, show ((n : Int) + 1 - 1).toNat = n by omega]
  conv => rhs; unfold sizeP
  rw [if_neg (by rw [h]; decide)]
theorem size_zero {x : Str} {p s : Int} (hs : ¬ 0 < s) : sizeP x p s.toNat = 0 := by
  rw [show s.toNat = 0 by omega]
  unfold sizeP
  rfl
theorem dig_on {x : Str} {p s : Int} {f : Nat} {r : Int} (hf : (x.length : Int) ≤ p + s + (f : Int)) (h1 : p + s < (x.length : Int)) (h2 : inDig (Txt.item x (p + s)) = true) (h : digP x p f s = r) : ∃ f', f = f' + 1 ∧ digP x p f' (s + 1) = r := by
  cases f with
  | zero => exfalso; omega
  | succ f =>
    unfold digP at h
    rw [if_pos h1, if_pos h2] at h
    exact ⟨f, rfl, h⟩
theorem dig_off1 {x : Str} {p s : Int} {f : Nat} {r : Int} (h1 : ¬ p + s < (x.length : Int)) (h : digP x p f s = r) : s = r := by
  cases f with
  | zero => unfold digP at h; exact h
  | succ f => unfold digP at h; rw [if_neg h1] at h; exact h
theorem dig_off2 {x : Str} {p s : Int} {f : Nat} {r : Int} (h1 : p + s < (x.length : Int)) (h2 : inDig (Txt.item x (p + s)) = false) (h : digP x p f s = r) : s = r := by
  cases f with
  | zero => unfold digP at h; exact h
  | succ f => unfold digP at h; rw [if_pos h1, if_neg (by rw [h2]; decide)] at h; exact h
theorem dig_off3 {x : Str} {p s : Int} {f : Nat} {r : Int} (h1 : p + s < (x.length : Int)) (h2 : (Builtin.Str.occurrences (Str.ofString "0123456789") (Txt.item x (p + s)) 0 (Str.ofString "0123456789").length 1).isEmpty = true) (h : digP x p f s = r) : s = r :=
  dig_off2 h1 (by unfold inDig; rw [h2]; rfl) h
theorem dig_on3 {x : Str} {p s : Int} {f : Nat} {r : Int} (hf : (x.length : Int) ≤ p + s + (f : Int)) (h1 : p + s < (x.length : Int)) (h2 : (Builtin.Str.occurrences (Str.ofString "0123456789") (Txt.item x (p + s)) 0 (Str.ofString "0123456789").length 1).isEmpty = false) (h : digP x p f s = r) : ∃ f', f = f' + 1 ∧ digP x p f' (s + 1) = r :=
  dig_on hf h1 (by unfold inDig; rw [h2]; rfl) h
theorem syms_end {x : Str} {p : Int} {f : Nat} {r : List Int} (h1 : ¬ p < (x.length : Int)) (h : symsP x f p = some r) : r = [] := by
  unfold symsP at h
  exact symsG_end h1 h
theorem syms_tab {x : Str} {p s : Int} {f : Nat} {r : List Int} (h1 : p < (x.length : Int)) (hs : 0 < s) (hz : sizeP x p s.toNat = sizeP x p 3) (h2 : (exactP (Txt.slice x (some p) (some (p + s)))).isSome = true) (h : symsP x f p = some r) :
    ∃ f' v r', f = f' + 1 ∧ exactP (Txt.slice x (some p) (some (p + s))) = some v ∧ symsP x f' (p + s) = some r' ∧ r = v :: r' := by
  have h3 := (size_on hs h2).symm.trans hz
  unfold symsP at h ⊢
  have h4 := symsG_tab h1 (by rw [← h3]; omega) h
  rw [← h3, show ((s.toNat : Nat) : Int) = s from Int.toNat_of_nonneg (Int.le_of_lt hs)] at h4
  exact h4
theorem syms_x {x : Str} {p s : Int} {f : Nat} {r : List Int} (h1 : p < (x.length : Int)) (hs : ¬ 0 < s) (hz : sizeP x p s.toNat = sizeP x p 3) (h2 : (Txt.item x p == Str.ofString "x") = true) (h : symsP x f p = some r) :
    ∃ f' r', f = f' + 1 ∧ symsP x f' (p + 1) = some r' ∧ r = 256 :: r' := by
  have h3 := (size_zero hs).symm.trans hz
  unfold symsP at h ⊢
  exact symsG_x h1 (by rw [← h3]; exact Nat.lt_irrefl _) h2 h
theorem syms_int {x : Str} {p s d : Int} {f : Nat} {r : List Int} (h1 : p < (x.length : Int)) (hs : ¬ 0 < s) (hz : sizeP x p s.toNat = sizeP x p 3) (h2 : (Txt.item x p == Str.ofString "x") = false) (hd : d = digP x p x.length 1) (h : symsP x f p = some r) :
    ∃ f' v r', f = f' + 1 ∧ PySem.intText? (Txt.slice x (some p) (some (p + d))) = some v ∧ symsP x f' (p + d) = some r' ∧ r = (256 + v) :: r' := by
  have h3 := (size_zero hs).symm.trans hz
  subst hd
  unfold symsP at h ⊢
  exact symsG_int h1 (by rw [← h3]; exact Nat.lt_irrefl _) h2 h
end SC10a
section SC11a
open PyProof.V
noncomputable def ranksD : List (PyData × PyData) := [(.int 0, .int 1), (.int 7, .int 0), (.int 8, .int 1), (.int 14, .int 2), (.int 16, .int 3), (.int 35, .int 4)]
@[irreducible] noncomputable def rankP (x : Int) : Option Int := if x = 0 then some 1 else if x = 7 then some 0 else if x = 8 then some 1 else if x = 14 then some 2 else if x = 16 then some 3 else if x = 35 then some 4 else none
@[irreducible] noncomputable def deedP (w l r : Int) : Option Int :=
  if w = 14 then some (l + r) else if w = 16 then (if fit l && fit r then some (l * r) else none)
  else if w = 35 then (if decide (0 ≤ r) && decide (r ≤ 1000) && decide (l.natAbs < 2 ^ 64) then some (l ^ r.toNat) else none) else none
noncomputable def reduceG (rk : Int → Option Int) (dd : Int → Int → Int → Option Int) (rs : Int) : List Int → List Int → Option (List Int × List Int)
  | [], ps => some (ps, [])
  | w :: ws, ps => match rk w with
    | none => none
    | some rw => if rs ≤ rw then (match ps with
      | r :: l :: ps' => (match dd w l r with
        | some v => reduceG rk dd rs ws (v :: ps')
        | none => none)
      | _ => none) else some (ps, w :: ws)
@[irreducible] noncomputable def reduceP : Int → List Int → List Int → Option (List Int × List Int) := reduceG rankP deedP
noncomputable def stepG (rk : Int → Option Int) (rd : Int → List Int → List Int → Option (List Int × List Int)) (ft : Int → Bool) (fu : Int → Option Int) (unit : Int) (st : List Int × List Int) (s : Int) : Option (List Int × List Int) :=
  if 1000 < st.1.length + st.2.length then none
  else if 256 ≤ s then some ((if 256 < s then s - 256 else unit) :: st.1, st.2)
  else if s = 52 then (match st.1 with
    | [] => none
    | p :: r => if ft (p - 1) = true then (match fu (p - 1) with
      | some v => some (v :: p :: r, st.2)
      | none => none) else none)
  else if s = 7 then some (st.1, 7 :: st.2)
  else match rk s with
    | none => none
    | some rs => (match rd rs st.2 st.1 with
      | none => none
      | some (ps, ws) => if s = 8 then (match ws with
        | _ :: t => some (ps, t)
        | [] => none) else if s = 0 then some (ps, ws) else some (ps, s :: ws))
@[irreducible] noncomputable def stepP (unit limit : Int) : List Int × List Int → Int → Option (List Int × List Int) := stepG rankP reduceP fit (fun x => furtherF limit x 100 0 (x * x)) unit
noncomputable def foldO {α β : Type} (f : α → β → Option α) (a : Option α) (l : List β) : Option α := l.foldl (fun o b => o.bind fun x => f x b) a
theorem foldO_none {α β : Type} (f : α → β → Option α) : ∀ l : List β, foldO f none l = none
  | [] => rfl
  | _ :: l => foldO_none f l
theorem foldO_step {α β : Type} {f : α → β → Option α} {a : Option α} {pre post : List β} {n : β} {st fin : α} (h : foldO f a (pre ++ n :: post) = some fin) (hp : foldO f a pre = some st) : ∃ st', f st n = some st' ∧ foldO f a (pre ++ [n]) = some st' := by
  unfold foldO at h hp ⊢
  rw [List.foldl_append, hp, List.foldl_cons] at h
  rw [List.foldl_append, hp, List.foldl_cons, List.foldl_nil]
  cases hf : f st n with
  | none =>
    rw [Option.bind_some, hf] at h
    exact absurd (h.symm.trans (foldO_none f post)) (by simp)
  | some st' => exact ⟨st', rfl, by rw [Option.bind_some, hf]⟩
@[irreducible] noncomputable def worthP (unit limit : Int) (ns : List Int) : Option Int := match foldO (stepP unit limit) (some ([], [])) ns with
  | some (x :: rest, _) => if rest.length ≤ 1000 then some x else none
  | _ => none
theorem worth_fold {unit limit r : Int} {ns : List Int} (h : worthP unit limit ns = some r) : ∃ rest ws, rest.length ≤ 1000 ∧ foldO (stepP unit limit) (some ([], [])) ns = some (r :: rest, ws) := by
  unfold worthP at h
  split at h
  · rename_i x rest ws e
    split at h
    · cases h
      exact ⟨rest, ws, by assumption, e⟩
    · cases h
  · cases h
theorem reduce_stop {rs rw w : Int} {ws ps : List Int} {q : List Int × List Int} (hr : rankP w = some rw) (hlt : ¬ rw ≥ rs) (h : reduceP rs (w :: ws) ps = some q) : q = (ps, w :: ws) := by
  unfold reduceP reduceG at h
  rw [hr] at h
  dsimp only at h
  rw [if_neg hlt] at h
  exact (Option.some.inj h).symm
theorem reduce_nil {rs : Int} {ps : List Int} {q : List Int × List Int} (h : reduceP rs [] ps = some q) : q = (ps, []) := by
  unfold reduceP reduceG at h
  exact (Option.some.inj h).symm
theorem reduce_rank {rs w : Int} {ws ps : List Int} {q : List Int × List Int} (h : reduceP rs (w :: ws) ps = some q) : ∃ rw, rankP w = some rw := by
  unfold reduceP reduceG at h
  cases hr : rankP w with
  | none => rw [hr] at h; cases h
  | some rw => exact ⟨rw, rfl⟩
theorem reduce_go {rs rw w : Int} {ws ps : List Int} {q : List Int × List Int} (hr : rankP w = some rw) (hge : rw ≥ rs) (h : reduceP rs (w :: ws) ps = some q) : ∃ r l ps' v, ps = r :: l :: ps' ∧ deedP w l r = some v ∧ reduceP rs ws (v :: ps') = some q := by
  unfold reduceP reduceG at h
  rw [hr] at h
  dsimp only at h
  rw [if_pos hge] at h
  match ps, h with
  | r :: l :: ps', h =>
    dsimp only at h
    cases hd : deedP w l r with
    | none => rw [hd] at h; cases h
    | some v =>
      rw [hd] at h
      refine ⟨r, l, ps', v, rfl, hd, ?_⟩
      unfold reduceP
      exact h
theorem deed_cases {w l r v : Int} (h : deedP w l r = some v) : (w = 14 ∧ v = l + r) ∨ (w = 16 ∧ fit l = true ∧ fit r = true ∧ v = l * r) ∨ (w = 35 ∧ 0 ≤ r ∧ r ≤ 1000 ∧ l.natAbs < 2 ^ 64 ∧ v = l ^ r.toNat) := by
  unfold deedP at h
  split at h
  · exact .inl ⟨by assumption, (Option.some.inj h).symm⟩
  · split at h
    · split at h
      · rename_i hf
        rw [Bool.and_eq_true] at hf
        exact .inr (.inl ⟨by assumption, hf.1, hf.2, (Option.some.inj h).symm⟩)
      · cases h
    · split at h
      · split at h
        · rename_i hf
          rw [Bool.and_eq_true, Bool.and_eq_true] at hf
          exact .inr (.inr ⟨by assumption, of_decide_eq_true hf.1.1, of_decide_eq_true hf.1.2, of_decide_eq_true hf.2, (Option.some.inj h).symm⟩)
        · cases h
      · cases h
theorem step_len {unit limit s : Int} {ps ws : List Int} {q : List Int × List Int} (h : stepP unit limit (ps, ws) s = some q) : ps.length + ws.length ≤ 1000 := by
  unfold stepP stepG at h
  split at h
  · cases h
  · rename_i hn
    dsimp only at hn
    omega
theorem step_big {unit limit s : Int} {ps ws : List Int} {q : List Int × List Int} (h1 : 256 ≤ s) (h : stepP unit limit (ps, ws) s = some q) : q = ((if 256 < s then s - 256 else unit) :: ps, ws) := by
  have hl := step_len h
  unfold stepP stepG at h
  rw [if_neg (by dsimp only; omega), if_pos h1] at h
  exact (Option.some.inj h).symm
theorem step_dots {unit limit s : Int} {ps ws : List Int} {q : List Int × List Int} (h1 : ¬ 256 ≤ s) (h2 : s = 52) (h : stepP unit limit (ps, ws) s = some q) : ∃ p r v, ps = p :: r ∧ fit (p - 1) = true ∧ furtherF limit (p - 1) 100 0 ((p - 1) * (p - 1)) = some v ∧ q = (v :: p :: r, ws) := by
  have hl := step_len h
  unfold stepP stepG at h
  rw [if_neg (by dsimp only; omega), if_neg h1, if_pos h2] at h
  dsimp only at h
  match ps, h with
  | p :: r, h =>
    dsimp only at h
    split at h
    · cases hf : furtherF limit (p - 1) 100 0 ((p - 1) * (p - 1)) with
      | none => rw [hf] at h; cases h
      | some v => rw [hf] at h; exact ⟨p, r, v, rfl, by assumption, hf, (Option.some.inj h).symm⟩
    · cases h
theorem step_open {unit limit s : Int} {ps ws : List Int} {q : List Int × List Int} (h2 : s = 7) (h : stepP unit limit (ps, ws) s = some q) : q = (ps, 7 :: ws) := by
  have hl := step_len h
  unfold stepP stepG at h
  rw [if_neg (by dsimp only; omega), if_neg (by omega), if_neg (by omega), if_pos h2] at h
  exact (Option.some.inj h).symm
theorem step_op {unit limit s : Int} {ps ws : List Int} {q : List Int × List Int} (h1 : ¬ 256 ≤ s) (h2 : s ≠ 52) (h3 : s ≠ 7) (h : stepP unit limit (ps, ws) s = some q) : ∃ rs ps' ws', rankP s = some rs ∧ reduceP rs ws ps = some (ps', ws') ∧ (s = 8 → ∃ x, ws' = x :: q.2 ∧ q.1 = ps') ∧ (s ≠ 8 → s = 0 → q = (ps', ws')) ∧ (s ≠ 8 → s ≠ 0 → q = (ps', s :: ws')) := by
  have hl := step_len h
  unfold stepP stepG at h
  rw [if_neg (by dsimp only; omega), if_neg h1, if_neg h2, if_neg h3] at h
  dsimp only at h
  cases hr : rankP s with
  | none => rw [hr] at h; cases h
  | some rs =>
    rw [hr] at h
    dsimp only at h
    cases hq : reduceP rs ws ps with
    | none => rw [hq] at h; cases h
    | some st =>
      obtain ⟨ps', ws'⟩ := st
      rw [hq] at h
      dsimp only at h
      refine ⟨rs, ps', ws', rfl, hq, fun h8 => ?_, fun h8 h0 => ?_, fun h8 h0 => ?_⟩
      · rw [if_pos h8] at h
        cases ws' with
        | nil => cases h
        | cons x t => cases h; exact ⟨x, rfl, rfl⟩
      · rw [if_neg h8, if_pos h0] at h; exact (Option.some.inj h).symm
      · rw [if_neg h8, if_neg h0] at h; exact (Option.some.inj h).symm
theorem rank_lookup {x r : Int} (h : rankP x = some r) : PySem.Spec.lookup (.int x) ranksD = some (.int r) := by
  unfold rankP at h
  repeat' split at h
  all_goals first | (subst_vars; cases h; rfl) | cases h
theorem flat_int {v : Value} {n : Int} (h : PyProof.V.Flat v (.int n)) (hp : Heap) : ∃ t, v = .int n t := by
  have h1 := h hp
  cases h1
  exact ⟨_, rfl⟩
theorem ints_top {us : List Value} {a : Int} {ps : List Int} (h : IntsAre us (a :: ps).reverse) : ∃ us' t, us = us' ++ [.int a t] ∧ IntsAre us' ps.reverse := by
  rw [List.reverse_cons] at h
  generalize ps.reverse = qs at h
  induction qs generalizing us with
  | nil =>
    cases h with
    | cons _ t h => cases h; exact ⟨[], t, rfl, .nil⟩
  | cons q qs ih =>
    cases h with
    | cons _ t h =>
      obtain ⟨us', t', rfl, h'⟩ := ih h
      exact ⟨.int q t :: us', t', rfl, .cons q t h'⟩
theorem ints_push {us : List Value} {v : Int} {t : Tok} {ps : List Int} (h : IntsAre us ps.reverse) : IntsAre (us ++ [.int v t]) (v :: ps).reverse := by
  rw [List.reverse_cons]
  exact IntsAre.append h (.cons v t .nil)
theorem last_snoc (y : Value) : ∀ p : List Value, kl_last (p ++ [y]) = some (p, y)
  | [] => rfl
  | a :: p => by
    show (match kl_last (p ++ [y]) with | some (p, y) => some (a :: p, y) | none => some ([], a)) = _
    rw [last_snoc y p]
theorem done_eq {α γ : Type} {o : Option (List α × γ)} {x : α} {rest ps : List α} {wsf ws : γ} (h1 : o = some (x :: rest, wsf)) (h2 : o = some (ps, ws)) : ps = x :: rest := by
  rw [h1] at h2
  cases h2
  rfl
section
variable {prog : Program} {w : World} {A : Around} {E : Value → Shared → Prop} {s : Shared} {h₀ : Heap} {L : Addr}
theorem item_snoc {value slice : Expr} {a : Addr} {us : List Value} {v : Value} {u : Tok} {Q : Value → Shared → Prop} (hl : s.heap.IsList a (us ++ [v]).toArray) (hz : us.length < 100000) (h : Q v s)
    (hs : subscripted slice false (.ref a) (.int (-1) u) = operate [.ref a, .int (-1) u] (getItem (.ref a) (.int (-1) u)) := by with_unfolding_all rfl) (hg : ∀ r, letTemporaryGo value (.ref a) r = pure () := by intro _; with_unfolding_all rfl) :
    wpAny (model prog w) A (subscriptTail value slice (.ref a) (.int (-1) u)) Q E s := by
  refine subscriptTail_builtin hl.typeIs slot_list_getitem.lookup (wpAny_getItem_list_neg hl (by decide) (by simp only [List.size_toArray, List.length_append, List.length_cons, List.length_nil]; omega) (by decide) (x := v) ?_ h) hs hg
  simp only [List.size_toArray, List.getElem?_toArray, List.length_append, List.length_cons, List.length_nil]
  rw [show ((-1 : Int) + ((us.length + (0 + 1) : Nat) : Int)).toNat = us.length by omega]
  simp
theorem item_dict {value slice : Expr} {d : Addr} {o : Obj} {kvs : List (Int × Value)} {news : List (Addr × Obj)} {i : Int} {t : Tok} {v : Value} {Q : Value → Shared → Prop} (N : News h₀ L s.heap news) (hm : (d, o) ∈ news) (hd : o.IsDictOf (intKind prog w) kvs) (hv : valueAt kvs i = some v) (h : Q v { s with toks := s.toks + 1 })
    (hs : subscripted slice false (.ref d) (.int i t) = operate [.ref d, .int i t] (getItem (.ref d) (.int i t)) := by with_unfolding_all rfl) (hg : ∀ r, letTemporaryGo value (.ref d) r = pure () := by intro _; with_unfolding_all rfl) :
    wpAny (model prog w) A (subscriptTail value slice (.ref d) (.int i t)) Q E s := by
  have D : s.heap.DictOf (intKind prog w) d kvs := Heap.dictOf_iff.mpr ⟨o, N.get hm, hd⟩
  exact subscriptTail_builtin D.typeIs slot_dict_getitem.lookup (wpAny_getItem_of (intKind_is prog w i t) D.mapOf hv h) hs hg
theorem ne_nilK {a b : Addr} {vs : List Value} {Q : Value → Shared → Prop} (hl : s.heap.IsList a vs.toArray) (hi : IntsAre vs ([] : List Int).reverse) (hl' : s.heap.IsList b (List.toArray [])) (hu : A.units + 64 < cLine)
    (h : Q (.bool false) s) : wpAny (model prog w) A (compareOp .NotEq (.ref a) (.ref b)) Q E s :=
  ne_intsK hl hi hl' .nil hu h
theorem ne_consK {a b : Addr} {vs : List Value} {x : Int} {ws : List Int} {Q : Value → Shared → Prop} (hl : s.heap.IsList a vs.toArray) (hi : IntsAre vs (x :: ws).reverse) (hl' : s.heap.IsList b (List.toArray [])) (hu : A.units + 64 < cLine)
    (h : Q (.bool true) s) : wpAny (model prog w) A (compareOp .NotEq (.ref a) (.ref b)) Q E s := by
  refine ne_intsK hl hi hl' .nil hu ?_
  rw [decide_eq_false (by simp)]
  exact h
end
end SC11a
section SC12g
section
variable {M : Model} {A : Around} {R : GenEnd} {Y : Protocol} {n : Nat} {s₀ : Shared} {c : Code} {fs : List Frame} {s : Shared} {env : Env}
  {K : Flow → Sem Fin} {H : Value → Sem Fin} {gd : Bool → Bool} {lv : List Value → List Value}
theorem seg_If {test : Expr} {body orelse : List Stmt} {pos : Pos}
    (h : wpAny M (A.over c fs) (isTrue test env (eval test env)) (fun b s' => if b = true then Seg M A R Y n s₀ c ((execs body env).wrap K H gd lv) fs s' else Seg M A R Y n s₀ c ((execs orelse env).wrap K H gd lv) fs s') (fun x s' => Seg M A R Y n s₀ c (H x) fs s') s) :
    Seg M A R Y n s₀ c ((exec (.If test body orelse pos) env).wrap K H gd lv) fs s := by
  rw [exec_If]
  refine seg_bind_wrap (wpAny_standAt ?_)
  refine seg_bind_wrap (wpAny_mono h (fun b s' h' => ?_) fun _ _ e => e)
  cases b with
  | true => simpa using h'
  | false => simpa using h'
theorem seg_For {target iter : Expr} {body orelse : List Stmt} {pos : Pos} (hs : ∀ x, foldedSetIterable iter env x = pure x)
    (h : wpAny M (A.over c fs) (eval iter env) (fun x s₁ => wpAny M (A.over c fs) (pyIter x) (fun it s₂ => ∀ p, Seg M A R Y n s₀ (.forLoop target it body orelse env) (M.den (.forLoop target it body orelse env))
      (.ret (fun r => ((match r with | .ok f => (.pure f : Sem Flow) | .error e => .raise e).onRaise fun (x : Value) => do
        if (← field x 1) == Value.none then unsupported "frame.own-activation:exception-without-traceback"
        setFlight x env.frame).wrap K H gd lv) none (gd false) (lv []) c p [] :: fs) s₂) (fun x s' => Seg M A R Y n s₀ c (H x) fs s') s₁) (fun x s' => Seg M A R Y n s₀ c (H x) fs s') s) :
    Seg M A R Y n s₀ c ((exec (.For target iter body orelse pos) env).wrap K H gd lv) fs s := by
  rw [exec_For]
  refine seg_bind_wrap (wpAny_standAt ?_)
  refine seg_bind_wrap (wpAny_mono h (fun x s₁ h₁ => ?_) fun _ _ e => e)
  refine seg_bind_wrap (wpAny_of_eq (hs x) ?_)
  refine seg_bind_wrap (wpAny_standAt ?_)
  refine seg_bind_wrap (wpAny_holding (wpAny_mono h₁ (fun it s₂ h₂ => ?_) fun _ _ e => e))
  exact seg_call h₂
end
section
variable {prog : Program} {w : World} {A : Around} {R : GenEnd} {Y : Protocol} {n : Nat} {s₀ : Shared} {fs : List Frame} {s : Shared} {env : Env}
theorem seg_forLoop {target : Expr} {it : Value} {body orelse : List Stmt} (ht : ∀ v, letOwnedTupleGo target it v = pure ())
    (h : wpAny (model prog w) (A.over (.forLoop target it body orelse env) fs) (pyNext it) (fun r s₁ => match r with
      | none => Seg (model prog w) A R Y n s₀ (.block orelse env) ((model prog w).den (.block orelse env)) fs s₁
      | some v => wpAny (model prog w) (A.over (.forLoop target it body orelse env) fs) (assign target env v) (fun _ s₂ => Seg (model prog w) A R Y n s₀ (.forLoop target it body orelse env) ((execs body env).wrap (fun f => match f with
            | .next | .cont => .pure (.again (.forLoop target it body orelse env))
            | .brk => .pure (.done .next)
            | .ret v => .pure (.done (.ret v))) (fun e => (do noteFrame e env; theTreesLotGoes e : Sem Unit).wrap (fun _ => .raise e) .raise id id) id id) fs s₂)
          (fun x s' => Seg (model prog w) A R Y n s₀ (.forLoop target it body orelse env) ((do noteFrame x env; theTreesLotGoes x : Sem Unit).wrap (fun _ => .raise x) .raise id id) fs s') s₁)
      (fun x s' => Seg (model prog w) A R Y n s₀ (.forLoop target it body orelse env) ((do noteFrame x env; theTreesLotGoes x : Sem Unit).wrap (fun _ => .raise x) .raise id id) fs s') s) :
    Seg (model prog w) A R Y n s₀ (.forLoop target it body orelse env) ((model prog w).den (.forLoop target it body orelse env)) fs s := by
  show Seg _ A R Y n s₀ _ ((forTurn target it body orelse env).onRaise (fun x => do noteFrame x env; theTreesLotGoes x)) fs s
  unfold forTurn
  rw [Sem.onRaise_eq_wrap]
  have hH : ∀ x, ((do noteFrame x env; theTreesLotGoes x : Sem Unit).bind fun _ => (.raise x : Sem Fin)) = (do noteFrame x env; theTreesLotGoes x : Sem Unit).wrap (fun _ => .raise x) .raise id id := fun x => Sem.bind_eq_wrap _ _
  refine seg_bind_wrap (wpAny_standAt ?_)
  refine seg_bind_wrap (wpAny_onRaise (wpAny_mono h (fun r s₁ h₁ => ?_) fun x s' h' => wpAny_standAt ?_))
  · cases r with
    | none => exact seg_again rfl h₁
    | some v =>
      refine seg_bind_wrap (wpAny_of_eq (ht v) ?_)
      refine seg_bind_wrap (wpAny_mono h₁ (fun _ s₂ h₂ => ?_) fun x s' h' => ?_)
      · rw [Sem.bind_eq_wrap', Sem.wrap_wrap]
        refine cast (congrArg (fun t => Seg (model prog w) A R Y n s₀ _ t fs s₂) (Sem.wrap_congr (execs body env) id id (fun f => ?_) (fun e => ?_)).symm) h₂
        · cases f <;> rfl
        · exact hH e
      · show Seg _ A R Y n s₀ _ ((do noteFrame x env; theTreesLotGoes x : Sem Unit).bind fun _ => .raise x) fs s'
        rw [hH]; exact h'
  · show Seg _ A R Y n s₀ _ ((do noteFrame x env; theTreesLotGoes x : Sem Unit).bind fun _ => .raise x) fs s'
    rw [hH]; exact h'
theorem seg_block_nil (h : Seg (model prog w) A R Y n s₀ (.block [] env) (.pure (.done .next)) fs s) : Seg (model prog w) A R Y n s₀ (.block [] env) ((model prog w).den (.block [] env)) fs s := h
end
theorem seg_ind {M : Model} {A : Around} {R : GenEnd} {Y : Protocol} {c : Code} {t : Sem Fin} {fs : List Frame} (P : List Int → Nat → Option Int → Nat → Shared → Shared → Prop)
    (step : ∀ rest i last n s₀ s, (∀ x r i' last' n' s₀' s', rest = x :: r → P r i' last' n' s₀' s' → Seg M A R Y n' s₀' c t fs s') → P rest i last n s₀ s → Seg M A R Y n s₀ c t fs s) :
    ∀ rest i last n s₀ s, P rest i last n s₀ s → Seg M A R Y n s₀ c t fs s := by
  intro rest
  induction rest with
  | nil => intro i last n s₀ s h; exact step [] i last n s₀ s (fun x r _ _ _ _ _ e => nomatch e) h
  | cons x r ih => intro i last n s₀ s h; exact step (x :: r) i last n s₀ s (fun x' r' i' last' n' s₀' s' e h' => by cases e; exact ih i' last' n' s₀' s' h') h
theorem seg_ind2 {M : Model} {A : Around} {R : GenEnd} {Y : Protocol} {c : Code} {t : Sem Fin} {fs : List Frame} (P : Nat → Shared → Shared → Prop)
    (step : ∀ k s₀ s, (∀ k' s₀' s', k = k' + 1 → P k' s₀' s' → Seg M A R Y (k' + 1) s₀' c t fs s') → P k s₀ s → Seg M A R Y (k + 1) s₀ c t fs s) :
    ∀ k s₀ s, P k s₀ s → Seg M A R Y (k + 1) s₀ c t fs s := by
  intro k
  induction k with
  | zero => intro s₀ s h; exact step 0 s₀ s (fun _ _ _ e => nomatch e) h
  | succ k ih => intro s₀ s h; exact step (k + 1) s₀ s (fun k' s₀' s' e h' => by cases e; exact ih s₀' s' h') h
end SC12g
section SC12a
theorem nilC12a : True := by
  k_with_none
  w_top off
  trivial
open Sem (wp)
/-- the first n items that the generator hands out -/
noncomputable def givP : Nat → List Int → Option Int → Option (List Int)
  | 0, _, _ => some []
  | _ + 1, [], _ => some []
  | n + 1, x :: r, last => if x = 127 then some [] else if x = 0 then (match last with
      | none => none
      | some w => some (List.replicate (n + 1) w))
    else (givP n r (some x)).map (x :: ·)
theorem giv_len : ∀ (n : Nat) (r : List Int) (l : Option Int) (ys : List Int), givP n r l = some ys → ys.length ≤ n
  | 0, _, _, ys, h => by cases h; exact Nat.le_refl _
  | _ + 1, [], _, ys, h => by cases h; exact Nat.zero_le _
  | n + 1, x :: r, last, ys, h => by
    unfold givP at h
    split at h
    · cases h; exact Nat.zero_le _
    · split at h
      · cases last with
        | none => cases h
        | some w => cases h; rw [List.length_replicate]; exact Nat.le_refl _
      · obtain ⟨zs, h1, h2⟩ := Option.map_eq_some_iff.mp h
        have := giv_len n r (some x) zs h1
        rw [← h2, List.length_cons]; omega
/-- what a segment of the generator keeps -/
noncomputable def GKeep (h₀ : Heap) (ks : List Addr) (s₀ s : Shared) : Prop := ∃ h' tk, s = { s₀ with heap := h', toks := tk } ∧ (∀ b o, h₀.get? b = some o → h'.get? b = some o) ∧ ∀ b ∈ ks, ∀ o, s₀.heap.get? b = some o → h'.get? b = some o
noncomputable def genY (h₀ : Heap) (C a : Addr) (ks : List Addr) (ys : List Int) : Protocol := fun m s₀ v s kap =>
  (∃ y t, ys[8 - m]? = some y ∧ v = .int y t) ∧ GKeep h₀ ks s₀ s ∧ ∃ I oC oI, @LT.lt Nat _ a I ∧ s.heap.get? C = some oC ∧ s.heap.get? I = some oI ∧
    (0 < m → ∀ s'' : Shared, (∀ b o, h₀.get? b = some o → s''.heap.get? b = some o) → s''.heap.get? C = some oC → s''.heap.get? I = some oI → kap (.send .none) s'')
noncomputable def genR (h₀ : Heap) (ks : List Addr) (ys : List Int) : GenEnd := fun n s₀ r s => r = .ok (.ret .none) ∧ (ys.length ≤ 9 - n ∧ GKeep h₀ ks s₀ s)
noncomputable def LastIs (m : Str → Option Value) : Option Int → Prop
  | none => m (Str.ofString "last_interval") = some .none
  | some x => ∃ t, m (Str.ofString "last_interval") = some (.int x t)
/-- the generator at the head of its loop -/
noncomputable def GenP (h₀ : Heap) (C I l : Addr) (ks : List Addr) (ns ys : List Int) (rest : List Int) (i : Nat) (last : Option Int) (n : Nat) (s₀ s : Shared) : Prop :=
  rest = ns.drop i ∧ n ≤ 9 ∧ 1 ≤ n ∧ givP n rest last = some (ys.drop (9 - n)) ∧ (∃ h' tk, s = { s₀ with heap := h', toks := tk }) ∧ ∃ m oI, Fr h₀ C s.heap m ∧ LastIs m last ∧ News h₀ C s.heap ((I, oI) :: ownOf h₀ ks s₀.heap) ∧ s.heap.IsListIter I l i
theorem gkeep_of {h₀ h' : Heap} {C : Addr} {ks : List Addr} {s₀ : Shared} {tk : Nat} {m : Str → Option Value} (hks : ∀ b ∈ ks, h₀.get? b = none) (F : Fr h₀ C h' m) (N : ∀ p ∈ ownOf h₀ ks s₀.heap, h'.get? p.1 = some p.2) : GKeep h₀ ks s₀ { s₀ with heap := h', toks := tk } :=
  ⟨h', tk, rfl, F.keep, fun b hb _ e => N _ (mem_ownOf hb (hks b hb) e)⟩
theorem news_turn {h₀ h h2 : Heap} {C I l : Addr} {k : Nat} {oI : Obj} {own : List (Addr × Obj)} (N : News h₀ C h ((I, oI) :: own)) (hs : Heap.SameBut I h h2) (ho : ∀ p ∈ own, @Ne Nat p.1 I) (hit2 : h2.IsListIter I l k) : ∃ oI2, (oI2.cls = .type "list_iterator" ∧ oI2.data = .fields #[.ref l, .int k 0]) ∧ News h₀ C h2 ((I, oI2) :: own) := by
  obtain ⟨oI2, e1, e2, e3⟩ := hit2
  refine ⟨oI2, ⟨e2, e3⟩, fun q hq => ?_⟩
  have z := N _ List.mem_cons_self
  rcases List.mem_cons.mp hq with rfl | hq
  · exact ⟨e1, z.2.1, z.2.2⟩
  · exact ⟨(hs.2 _ (ho q hq)).trans (N q (List.mem_cons_of_mem _ hq)).1, (N q (List.mem_cons_of_mem _ hq)).2⟩
theorem fr_at {h₀ h : Heap} {L : Addr} {m : Str → Option Value} {x : Str} {v : Value} (hv : m x = some v) (F : Fr h₀ L h m) : Fr h₀ L h (fun z => if z = x then some v else m z) := by
  have e : m = fun z => if z = x then some v else m z := by
    funext z
    by_cases h1 : z = x
    · rw [if_pos h1, h1]; exact hv
    · rw [if_neg h1]
  exact e ▸ F
theorem last_val {m : Str → Option Value} {last : Option Int} (h : LastIs m last) : ∃ v, m (Str.ofString "last_interval") = some v ∧ ∀ w, last = some w → ∃ t, v = .int w t := by
  cases last with
  | none => exact ⟨_, h, fun w e => nomatch e⟩
  | some x => obtain ⟨t, h⟩ := h; exact ⟨_, h, fun w e => by cases e; exact ⟨t, rfl⟩⟩
theorem fr_back {h₀ h hp : Heap} {C : Addr} {m : Str → Option Value} {oC : Obj} (F : Fr h₀ C h m) (hC : h.get? C = some oC) (hk : ∀ b o, h₀.get? b = some o → hp.get? b = some o) (hC2 : hp.get? C = some oC) : Fr h₀ C hp m :=
  ⟨F.ns.at' fun o e => by rw [hC] at e; cases e; exact hC2, hk, F.above⟩
theorem news_back {h₀ hp : Heap} {C I : Addr} {oI : Obj} {ks : List Addr} (hCks : C ∉ ks) (hI : hp.get? I = some oI) (hIC : I ≠ C) (hI0 : h₀.get? I = none) : News h₀ C hp ((I, oI) :: ownOf h₀ ks hp) := by
  intro q hq
  rcases List.mem_cons.mp hq with rfl | hq
  · exact ⟨hI, hIC, hI0⟩
  · exact news_ownOf hCks q hq
theorem giv_nil {n : Nat} {last : Option Int} {ys : List Int} {k : Nat} (h1 : 1 ≤ n) (h : givP n [] last = some (ys.drop k)) : ys.length ≤ k := by
  obtain ⟨n, rfl⟩ : ∃ n', n = n' + 1 := ⟨n - 1, by omega⟩
  unfold givP at h
  have h2 : ys.drop k = [] := (Option.some.inj h).symm
  simpa using h2
theorem giv_max {n : Nat} {r : List Int} {x : Int} {last : Option Int} {ys : List Int} {k : Nat} (h1 : 1 ≤ n) (hx : x = 127) (h : givP n (x :: r) last = some (ys.drop k)) : ys.length ≤ k := by
  obtain ⟨n, rfl⟩ : ∃ n', n = n' + 1 := ⟨n - 1, by omega⟩
  unfold givP at h
  rw [if_pos hx] at h
  have h2 : ys.drop k = [] := (Option.some.inj h).symm
  simpa using h2
theorem giv_zero {n : Nat} {r : List Int} {x : Int} {last : Option Int} {ys : List Int} {k : Nat} (h1 : 1 ≤ n) (hx : x ≠ 127) (hx0 : x = 0) (h : givP n (x :: r) last = some (ys.drop k)) : ∃ w, last = some w ∧ ys.drop k = List.replicate n w := by
  obtain ⟨n, rfl⟩ : ∃ n', n = n' + 1 := ⟨n - 1, by omega⟩
  unfold givP at h
  rw [if_neg hx, if_pos hx0] at h
  cases last with
  | none => cases h
  | some w => exact ⟨w, rfl, (Option.some.inj h).symm⟩
theorem giv_item {n : Nat} {r : List Int} {x : Int} {last : Option Int} {ys : List Int} {k : Nat} (h1 : 1 ≤ n) (hx : x ≠ 127) (hx0 : x ≠ 0) (h : givP n (x :: r) last = some (ys.drop k)) : ys[k]? = some x ∧ givP (n - 1) r (some x) = some (ys.drop (k + 1)) := by
  obtain ⟨n, rfl⟩ : ∃ n', n = n' + 1 := ⟨n - 1, by omega⟩
  unfold givP at h
  rw [if_neg hx, if_neg hx0] at h
  obtain ⟨zs, h2, h3⟩ := Option.map_eq_some_iff.mp h
  have h4 : ys[k]? = some x := by
    have := congrArg (fun l => l[0]?) h3
    simpa using this.symm
  refine ⟨h4, ?_⟩
  rw [show n + 1 - 1 = n from rfl, h2]
  have h5 := congrArg List.tail h3
  rw [List.tail_cons, List.tail_drop] at h5
  rw [h5]
section
variable {w : World} {A A₀ : Around} {E Q : Value → Shared → Prop} {s : Shared} {base h₀ : Heap} {outer : List Env} {L l : Addr} {m mg mb : Str → Option Value} {mean : ExcName → Option Value} {news : List (Addr × Obj)} {vs : List Value} {ns ys : List Int}
theorem enterG {f : Addr} {name qual : Str} {params : Arguments} {body : List Stmt} {scope : Scope} {dV kV doc pm cdv ct oc : Value} {an od : Option Addr} {osl : Array (Option Value)} {args : List Value} (binds : List (Str × Value)) (F : Fr h₀ L s.heap m) (X₀ : (hd.heap_39 w.params).In h₀) (T : Top hd.view_39 LS mean mg mb h₀)
    (ho : (hd.heap_39 w.params).lookup f = some ⟨oc, od, .func (fnOf name qual params body scope dV kV doc pm an cdv ct), osl⟩) (hcd : codeIn (hd.heap_39 w.params) cdv qual = true) (hroom : A.depth < recursionLimit)
    (hbind : BindsTo s (fnOf name qual params body scope dV kV doc pm an cdv ct) ⟨args, []⟩ binds) (hloc : ∀ y ∈ binds, scope.names.lookup y.1 = some .local)
    (h : ∀ (C : Addr) (h₁ : Heap) (tk : Nat), C = s.heap.objs.size → h₁.Ns C (fun y => binds.reverse.lookup y) → (∀ b o, s.heap.get? b = some o → h₁.get? b = some o) → h₁.NoLimit →
      Q (.ref h₁.objs.size) { s with gens := s.gens.push (.fresh (.func body (envOf qual scope C f cdv))), toks := tk, heap := h₁.push { cls := .type "generator", data := .fields #[.int s.gens.size 0, .str name (s.toks + binds.length), .str qual (s.toks + binds.length + 1)] } })
    (hco : scope.isCoroutine = false) (hgen : scope.isGenerator = true) (hk : scope.kind = .function) (hcell : ∀ x ∈ scope.names, x.2 ≠ .cell) : wpAny (model PySem.Challenge.rw_wo0041_01.row.prog w) A (call (.ref f) args) Q E s := by
  refine wpAny_call ?_
  refine codeAny_call_generator hroom ((X₀.keeps F.keep) _ _ ho) rfl hco hgen rfl (codeRec_of (X₀.keeps F.keep) hcd) (hbind _ _ _ _ ?_)
  refine wpAny_newFunctionEnv hcell hloc (fun h₁ hns hsb => ?_) hk
  have hk₁ : ∀ b o, s.heap.get? b = some o → h₁.get? b = some o := fun b o e => hsb.extBut b o (Nat.ne_of_lt (Heap.lt_size e)) (Heap.get?_push_of_some _ e)
  have hnl : h₁.NoLimit := (T.nolimit.keeps F.keep).keeps hk₁
  exact ⟨hnl, h _ h₁ _ rfl hns hk₁ hnl⟩
end
section
variable {w : World} {A A₀ : Around} {E Q : Value → Shared → Prop} {s : Shared} {base h₀ : Heap} {outer : List Env} {L l : Addr} {m mg mb : Str → Option Value} {mean : ExcName → Option Value} {news : List (Addr × Obj)} {vs : List Value} {ns ys : List Int}
theorem gen_call (F : Fr h₀ L s.heap m) (N : News h₀ L s.heap news) (X₀ : (hd.heap_39 w.params).In h₀) (T : Top hd.view_39 LS mean mg mb h₀) (hl : h₀.IsList l vs.toArray) (hi : IntsAre vs ns) (hroom : A.depth < recursionLimit) (hg : givP 9 ns none = some ys)
    (h : ∀ (c : Code) (C : Addr) (oC og : Obj) (a : Addr) (h' : Heap) (tk : Nat), Fr h₀ L h' m → News h₀ L h' ((a, og) :: (C, oC) :: news) → h'.IsGen a s.gens.size → h'.NoLimit → @LT.lt Nat _ C a → (∀ p ∈ news, @LT.lt Nat _ p.1 C) → @LT.lt Nat _ L C →
      (∀ (A' : Around) (s'' : Shared) (ks : List Addr), A'.handled = none → (∀ b o, h₀.get? b = some o → s''.heap.get? b = some o) → s''.heap.get? C = some oC → s''.heap.get? a = some og → C ∉ ks → (∀ b ∈ ks, @LE.le Nat _ b a ∧ h₀.get? b = none) →
        Seg (model PySem.Challenge.rw_wo0041_01.row.prog w) A' (genR h₀ ks ys) (genY h₀ C a ks ys) 9 s'' c ((model PySem.Challenge.rw_wo0041_01.row.prog w).den c) [] s'') →
      Q (.ref a) { s with heap := h', toks := tk, gens := s.gens.push (.fresh c) }) :
    wpAny (model PySem.Challenge.rw_wo0041_01.row.prog w) A (call (.ref 21) [.ref l]) Q E s := by
  k_dflt (refine' enterG [(Str.ofString "grouping", .ref l)] F X₀ T ?k6 ?k7 hroom ?k9 ?kB ?_ ?c2 ?c3 ?c4 ?c5; (case k6 => k_is); (case k7 => k_is); (case k9 => exact BindsTo.of_eq rfl); (case c5 => decide); (case kB => exact locs rfl); (case c2 => exact rfl); (case c3 => exact rfl); (case c4 => exact rfl))
  intro C h₁ tk hC hns hk₁ hnl
  obtain ⟨oC, es, ep, hCo, hCd, hCk, hCf⟩ := id hns
  have hCs : s.heap.objs.size = C := hC.symm
  have hCn : h₀.get? C = none := by rw [hC]; exact next_is_new F
  have F₁ : Fr h₀ L h₁ m := F.keeps hk₁
  have N₁ : News h₀ L h₁ ((C, oC) :: news) := by
    intro p hp
    rcases List.mem_cons.mp hp with rfl | hp
    · refine ⟨hCo, fun e => ?_, hCn⟩
      exact absurd F.ns.lt (by rw [← e, hC]; exact Nat.lt_irrefl _)
    · exact ⟨hk₁ _ _ (N p hp).1, (N p hp).2⟩
  refine h _ C oC _ _ _ _ (F₁.push _) (N₁.push F₁ _) ⟨_, _, _, Heap.get?_push_size _ rfl, rfl, rfl, rfl⟩ (hnl.push _) (Heap.lt_size hCo) (fun p hp => by rw [hC]; exact Heap.lt_size (N p hp).1) (by rw [hC]; exact F.ns.lt) ?_
  intro A' s'' ks hA hk hCC haa hCks hksa
  have hns'' : s''.heap.Ns C (fun y => [(Str.ofString "grouping", Value.ref l)].reverse.lookup y) := ⟨oC, es, ep, hCC, hCd, hCk, hCf⟩
  have FC : Fr h₀ C s''.heap (fun y => [(Str.ofString "grouping", Value.ref l)].reverse.lookup y) := ⟨hns'', hk, by rw [hC]; exact Nat.le_trans F.above (Nat.le_of_lt F.ns.lt)⟩
  generalize hag : h₁.objs.size = a at *
  generalize hog : ({ cls := .type "generator", data := .fields #[.int s.gens.size 0, .str _ _, .str _ _] } : Obj) = og at *
  have hao : h₀.get? a = none := by
    cases hq : h₀.get? a with
    | none => rfl
    | some o => exact absurd (Heap.lt_size (F₁.keep _ _ hq)) (by rw [hag]; exact Nat.lt_irrefl _)
  have NC : News h₀ C s''.heap ((a, og) :: ownOf h₀ ks s''.heap) := by
    intro p hp
    rcases List.mem_cons.mp hp with rfl | hp
    · exact ⟨haa, fun e => absurd (Heap.lt_size hCo) (by rw [hag, ← e]; exact Nat.lt_irrefl _), hao⟩
    · exact news_ownOf hCks p hp
  have hll : ∀ hp : Heap, (∀ b o, h₀.get? b = some o → hp.get? b = some o) → hp.IsList l vs.toArray := fun hp hk => hl.at fun o e => hk l o e
  clear h F N F₁ N₁ hns hCo hCd hCk hCf hns'' hnl
  generalize hown : ownOf h₀ ks s''.heap = own at NC
  refine seg_func ?_
  refine seg_execs_cons ?_
  refine seg_wrap ?_
  k_steps
  rename Fr _ _ _ _ => F1
  rename News _ _ _ _ => N1
  refine seg_execs_cons ?_
  refine seg_For (fun _ => rfl) ?_
  refine nameX_L F1 rfl ?_ rfl rfl
  refine wpAny_pyIter_list (hll _ F1.keep) ?_
  intro p
  have haI := Heap.lt_size (N1.get List.mem_cons_self)
  have N2 := N1.push F1 { cls := .type "list_iterator", data := .fields #[.ref l, .int 0 0] }
  refine seg_ind (GenP h₀ C _ l ks ns ys) ?step ns 0 none 9 s'' _ ⟨rfl, Nat.le_refl _, by decide, hg, ⟨_, _, rfl⟩, _, { cls := .type "list_iterator", data := .fields #[.ref l, .int 0 0] }, F1.push _, rfl, ?pp, ⟨_, Heap.get?_push_size _ rfl, rfl, rfl⟩⟩
  case pp =>
    intro q hq
    rw [hown] at hq
    refine N2 q ?_
    rcases List.mem_cons.mp hq with h | h
    · exact h ▸ List.mem_cons_self
    · exact List.mem_cons_of_mem _ (List.mem_cons_of_mem _ h)
  clear N2 N1 F1
  rintro rest i last n s₀ s₁ ih ⟨hr, hn9, hn1, hgv, ⟨hp, tk1, rfl⟩, m1, oI, F, hLast, N, hit⟩
  refine seg_forLoop (fun _ => rfl) ?_
  have hIC := (N _ List.mem_cons_self).2.1
  have hI0 := (N _ List.mem_cons_self).2.2
  have hoI : ∀ p ∈ ownOf h₀ ks s₀.heap, @Ne Nat p.1 _ := fun p hp => Nat.ne_of_lt (Nat.lt_of_le_of_lt (hksa _ (ownOf_sub p hp)).1 haI)
  have hks0 : ∀ b ∈ ks, h₀.get? b = none := fun b hb => (hksa b hb).2
  cases rest with
  | nil =>
    have hlen : ns.length ≤ i := by
      have := congrArg List.length hr
      simp only [List.length_nil, List.length_drop] at this
      omega
    refine wpAny_pyNext_list_end (by exact hA) hit (hll _ F.keep) (by simp only [List.getElem?_toArray]; exact List.getElem?_eq_none (by rw [hi.length]; exact hlen)) (fun h2 he => ?_)
    refine seg_block_nil ?_
    refine seg_leaf (.ok .next) ?_
    have F2 : Fr h₀ C h2 m1 := ⟨F.ns.extBut he (Ne.symm hIC), fun b o e => he b o (fun q => by rw [q, hI0] at e; cases e) (F.keep b o e), F.above⟩
    exact seg_end (.ok (.ret .none)) ⟨rfl, giv_nil hn1 hgv, gkeep_of hks0 F2 fun p hp => he _ _ (hoI p hp) (N p (List.mem_cons_of_mem _ hp)).1⟩
  | cons x r =>
    have hx : ns[i]? = some x := by
      have := congrArg (fun l => l[0]?) hr
      simpa using this.symm
    have hr' : r = ns.drop (i + 1) := by
      have := congrArg List.tail hr
      rwa [List.tail_cons, List.tail_drop] at this
    obtain ⟨t, hv⟩ := hi.get i x hx
    refine wpAny_pyNext_list_item hit (hll _ F.keep) (by simpa using hv) (fun h2 hit2 hs2 => ?_)
    have F2 : Fr h₀ C h2 m1 := F.change hs2 hIC hI0
    obtain ⟨oI2, hoI2, N2⟩ := news_turn N hs2 hoI hit2
    generalize hown2 : ownOf h₀ ks s₀.heap = own2 at *
    clear F N hit
    obtain ⟨lv, hlv, hlw⟩ := last_val hLast
    replace F2 := fr_at hlv F2
    obtain ⟨n, rfl⟩ : ∃ n', n = n' + 1 := ⟨n - 1, by omega⟩
    clear hLast hlv
    k_steps
    refine seg_execs_cons (seg_If ?_)
    k_steps
    · refine seg_execs_cons (seg_wrap ?_)
      k_steps
      rename Fr _ _ _ _ => F3
      rename News _ _ _ _ => N3
      refine seg_leaf (.ok (.ret .none)) ?_
      exact seg_end (.ok (.ret .none)) ⟨rfl, giv_max hn1 (by assumption) hgv, gkeep_of hks0 F3 fun p hp => (N3 p (List.mem_cons_of_mem _ (hown2 ▸ hp))).1⟩
    · refine seg_execs_nil ?_
      refine seg_execs_cons (seg_If ?_)
      k_steps
      · obtain ⟨w9, hlast9, hdr9⟩ := giv_zero hn1 (by assumption) (by assumption) hgv
        obtain ⟨tw9, hlv9⟩ := hlw w9 hlast9
        subst hlv9
        refine seg_execs_cons (seg_If ?_)
        k_steps
        refine seg_execs_nil ?_
        refine seg_execs_cons (seg_While ?_)
        intro p2
        rename Fr _ _ _ _ => F3
        rename News _ _ _ _ => N3
        have F4 := fr_at (x := Str.ofString "last_interval") (v := .int w9 tw9) (by with_unfolding_all rfl) F3
        rw [← hown2] at N3
        refine seg_ind2 (fun k s₀ s => k + 1 ≤ 9 ∧ ys.drop (9 - (k + 1)) = List.replicate (k + 1) w9 ∧ (∃ h' tk, s = { s₀ with heap := h', toks := tk }) ∧ ∃ (m : Str → Option Value) (I : Addr) (oI : Obj), @LT.lt Nat _ a I ∧ Fr h₀ C s.heap (fun z => if z = Str.ofString "last_interval" then some (.int w9 tw9) else m z) ∧ News h₀ C s.heap ((I, oI) :: ownOf h₀ ks s₀.heap)) ?step2 n s₀ _ ⟨hn9, hdr9, ⟨_, _, rfl⟩, _, _, oI2, haI, F4, N3⟩
        clear F3 F4 N3
        rintro k s₂ s₃ ih2 ⟨hk9, hdr, ⟨h5, tk5, rfl⟩, m5, I5, oI5, haI5, F5, N5⟩
        refine seg_whileLoop ?_
        k_steps
        refine seg_execs_cons (seg_Expr_Yield rfl rfl rfl ?_)
        k_steps
        rename_i kap hkap
        rename Fr _ _ _ _ => F3
        rename News _ _ _ _ => N3
        obtain ⟨oC3, es3, ep3, hC3, hC3'⟩ := id F3.ns
        have hI3 := N3 _ List.mem_cons_self
        have hidx : ys[8 - k]? = some w9 := by
          have h1 := congrArg (fun l => l[0]?) hdr
          rw [show 8 - k = 9 - (k + 1) by omega]
          simpa [List.replicate_succ] using h1
        refine ⟨⟨w9, tw9, hidx, rfl⟩, gkeep_of hks0 F3 (fun p hp => (N3 p (List.mem_cons_of_mem _ hp)).1), I5, oC3, oI5, haI5, hC3, hI3.1, fun hm s6 hk6 hC6 hI6 => hkap .none s6 ?_⟩
        obtain ⟨k, rfl⟩ : ∃ k', k = k' + 1 := ⟨k - 1, by omega⟩
        refine seg_again rfl (ih2 k s6 s6 rfl ⟨by omega, ?_, ⟨_, _, rfl⟩, m5, I5, oI5, haI5, fr_back F3 hC3 hk6 hC6, news_back hCks hI6 hI3.2.1 hI3.2.2⟩)
        have h1 := congrArg List.tail hdr
        rw [List.tail_drop] at h1
        rw [show 9 - (k + 1) = 9 - (k + 1 + 1) + 1 by omega, h1]
        simp [List.replicate_succ]
      · refine seg_execs_nil ?_
        refine seg_execs_cons (seg_Expr_Yield rfl rfl rfl ?_)
        k_steps
        rename_i kap hkap
        rename Fr _ _ _ _ => F3
        rename News _ _ _ _ => N3
        obtain ⟨oC3, es3, ep3, hC3, hC3'⟩ := id F3.ns
        have hI3 := N3 _ List.mem_cons_self
        obtain ⟨hidx, hgv2⟩ := giv_item hn1 (by assumption) (by assumption) hgv
        refine ⟨⟨x, t, by rw [show 8 - n = 9 - (n + 1) by omega]; exact hidx, rfl⟩, gkeep_of hks0 F3 (fun p hp => (N3 p (List.mem_cons_of_mem _ (hown2 ▸ hp))).1), _, oC3, oI2, haI, hC3, hI3.1, fun hm s6 hk6 hC6 hI6 => hkap .none s6 ?_⟩
        have F6 := fr_back F3 hC3 hk6 hC6
        have N6 := news_back (ks := ks) hCks hI6 hI3.2.1 hI3.2.2
        clear F3 N3 hkap
        generalize hown6 : ownOf h₀ ks s6.heap = own6 at N6
        refine seg_execs_cons (seg_wrap ?_)
        k_steps
        rename Fr _ _ _ _ => F7
        rename News _ _ _ _ => N7
        rw [← hown6] at N7
        refine seg_again rfl (ih x r (i + 1) (some x) n s6 _ rfl ⟨hr', by omega, hm, ?_, ⟨_, _, rfl⟩, _, oI2, F7, ⟨t, rfl⟩, N7, ⟨oI2, (N7 _ List.mem_cons_self).1, hoI2.1, hoI2.2⟩⟩)
        rw [show 9 - n = 9 - (n + 1) + 1 by omega]
        exact hgv2
end
end SC12a
section SC12b
theorem bare_set {s : Shared} {g : Nat} {x : GenState} (h : AllBare s.gens) (hx : x.bare = true) : AllBare (s.setGen g x).gens := by
  intro y hy
  rcases Array.getElem_of_mem hy with ⟨i, hi, rfl⟩
  have hi' : i < s.gens.size := by simpa [Shared.setGen] using hi
  by_cases hg : g = i
  · subst hg
    simpa [Shared.setGen] using hx
  · have e : (s.gens.setIfInBounds g x)[i]'(by simpa using hi') = s.gens[i] := by (rw [Array.getElem_setIfInBounds]; simp [hg]; exact hi')
    show ((s.gens.setIfInBounds g x)[i]'(by simpa using hi')).bare = true
    rw [e]
    exact h _ (Array.getElem_mem hi')
section
variable {prog : Program} {w : World} {A : Around} {E : Value → Shared → Prop} {s : Shared}
/-- the next item of a def's generator; the state that it leaves bears no cleanup -/
theorem next_gen {a : Addr} {g n : Nat} {gs : GenState} {P : Nat → Shared → Shared → Prop} {Y : Protocol} {Q : Option Value → Shared → Prop} (hh : A.handled = none) (hl : s.heap.NoLimit) (hroom : A.depth < recursionLimit)
    (hg : s.heap.IsGen a g) (hgs : s.gens[g]? = some gs) (hgo : gs.Goes (model prog w) A.in1 (fun n s₀ r s₁ => r = .ok (.ret .none) ∧ P n s₀ s₁) Y n (.send .none) (s.setGen g .running))
    (hY : ∀ v s₁ gs', gs'.bare = true → Y (n - 1) (s.setGen g .running) v s₁ (fun r' s'' => match n with
        | 0 => False
        | m + 1 => gs'.Goes (model prog w) A.in1 (fun n s₀ r s₁ => r = .ok (.ret .none) ∧ P n s₀ s₁) Y m r' s'') → Q (some v) (s₁.setGen g gs'))
    (hP : ∀ s₁, P n (s.setGen g .running) s₁ → ∀ h', (∀ b o, s₁.heap.get? b = some o → h'.get? b = some o) → Q none { s₁.setGen g .finished with heap := h' }) :
    wpAny (model prog w) A (pyNext (.ref a)) Q E s := by
  unfold pyNext
  refine wpAny_bind (wpAny_attempt (wpAny_callSpecial?_slot (name := Str.ofString "__next__") hg.typeIs slot_gen_next (wpAny_call_entry slot_gen_next hg.typeIs entry_gen_next ?_ (args_gen_next _))))
  show wpAny _ A.in1 (Builtin.Generator.genWake (.ref a) (.send .none)) _ _ s
  unfold Builtin.Generator.genWake
  refine wpAny_bind (wpAny_holding (wpAny_genNumber hg (wpAny_bind (wpAny_genState hgs ?_))))
  cases gs with
  | running => exact hgo.elim
  | finished => exact hgo.elim
  | _ =>
    refine wpAny_bind (wpAny_roomToWake hl hroom ?_)
    show wpAny _ A.in1 (.resume g (.send .none) [] _) _ _ s
    refine wpAny_resumeQ hgs hgo (fun x s₁ hx => ?_) (fun v s₁ gs' hb hv => wpAny_pure ⟨v, rfl, wpAny_pure (hY v s₁ gs' hb hv)⟩)
    obtain ⟨rfl, hp⟩ := hx
    show wpAny _ A.in1 (newExc (.type "StopIteration") [] >>= _) _ _ _
    refine wpAny_bind ?_
    simp only [newExc, newTuple]
    refine wpAny_bind (wpAny_newObj_type ?_ (by size_fits))
    refine wpAny_bind (m := firstArgMember _ _) (wpAny_of_eq (a := Value.none) (by first | rfl | (simp only [firstArgMember]; rfl)) ?_)
    refine wpAny_newObj_type ?_ (by size_fits)
    simp only [raiseNew]
    refine wpAny_bind (wpAny_bind (wpAny_handled ?_))
    rw [show A.in1.handled = none from hh]
    refine wpAny_throw ?_
    refine wpAny_bind (wpAny_isInstance (T := "StopIteration") (b := true) ⟨_, Heap.get?_push_size _ rfl, rfl⟩ isSubtype_stop ?_)
    exact wpAny_pure (hP s₁ hp _ fun b o hb => Heap.get?_push_of_some _ (Heap.get?_push_of_some _ hb))
end
noncomputable def ToldEnd (g : Heap) (L a D C I : Addr) (og oC oI : Obj) (m₀ : Str → Option Value) (us : List Value) (Rb : Shared → Prop) (s₁ : Shared) (f : Flow) (s₃ : Shared) : Prop :=
  match f with
  | .brk => us.length = 9 ∧ Rb s₃
  | .next => us.length ≠ 9 ∧ ∃ h' tk' m' kk, s₃ = { s₁ with heap := h', toks := tk' } ∧ Fr g L h' m' ∧ (∀ z, z ≠ Str.ofString "size" → m' z = m₀ z) ∧ News g L h' [(a, og), (D, listOf us.toArray kk), (C, oC), (I, oI)]
  | _ => False
theorem fr_off1 {h₀ h : Heap} {L : Addr} {m m₀ : Str → Option Value} {x : Str} (hm : ∀ z, z ≠ x → m z = m₀ z) (F : Fr h₀ L h m) : Fr h₀ L h (fun z => if z = x then m z else m₀ z) := by
  have e : m = fun z => if z = x then m z else m₀ z := by
    funext z
    by_cases h1 : z = x
    · rw [if_pos h1]
    · rw [if_neg h1]; exact hm z h1
  exact e ▸ F
section
variable {prog : Program} {w : World} {A : Around} {s : Shared} {env : Env} {px : Pos} {body : List Stmt} {R : Result → Shared → Prop} {g : Heap} {L D a C : Addr} {oC og : Obj} {gno : Nat} {ys : List Int} {m₀ : Str → Option Value} {c : Code} {G₀ : Array GenState}
theorem told_loop (hL : env.locals = L) (hx : env.kindOf (Str.ofString "size") = some .local) (hp : (env.scope.kind == .class || (env.scope.kind == .module && env.locals != env.globals)) = false) (hh : A.handled = none) (hroom : A.depth < recursionLimit)
    (F : Fr g L s.heap m₀) (N : News g L s.heap [(a, og), (C, oC), (D, listOf #[] 0)]) (hNL : g.NoLimit) (hG : s.heap.IsGen a gno) (hgs : s.gens[gno]? = some (.fresh c)) (hb : AllBare G₀ → AllBare s.gens) (hCa : @LT.lt Nat _ C a) (hDC : @LT.lt Nat _ D C) (hLC : @LT.lt Nat _ L C)
    (hys : ys.length ≤ 9)
    (hseg : ∀ (A' : Around) (s'' : Shared) (ks : List Addr), A'.handled = none → (∀ b o, g.get? b = some o → s''.heap.get? b = some o) → s''.heap.get? C = some oC → s''.heap.get? a = some og → C ∉ ks → (∀ b ∈ ks, @LE.le Nat _ b a ∧ g.get? b = none) →
        Seg (model prog w) A' (genR g ks ys) (genY g C a ks ys) 9 s'' c ((model prog w).den c) [] s'')
    (turn : ∀ (us : List Value) kk (y : Int) t oC' I oI (u : Str → Option Value) h tk G, IntsAre us (ys.take us.length) → us.length < 9 → ys[us.length]? = some y → (AllBare G₀ → AllBare G) → (@Ne Nat a D ∧ @Ne Nat C D ∧ @Ne Nat I D) → Fr g L h (fun z => if z = Str.ofString "size" then some (.int y t) else m₀ z) →
      News g L h [(a, og), (D, listOf us.toArray kk), (C, oC'), (I, oI)] →
      wpAny (model prog w) A (execs body env) (ToldEnd g L a D C I og oC' oI m₀ (us ++ [.int y t]) (fun s₃ => R (.ok .next) s₃) { s with heap := h, toks := tk, gens := G }) (notedBy (model prog w) A env fun e s' => R (.error e) s') { s with heap := h, toks := tk, gens := G })
    (done : ∀ (us : List Value) kk (u : Str → Option Value) h tk G, IntsAre us ys → (AllBare G₀ → AllBare G) → Fr g L h (fun z => if z = Str.ofString "size" then u z else m₀ z) → News g L h [(a, og), (D, listOf us.toArray kk)] → R (.ok .next) { s with heap := h, toks := tk, gens := G }) :
    codeAny (model prog w) A (.forLoop (.Name (Str.ofString "size") px) (.ref a) body [] env) R s := by
  subst hL
  have hLn : g.get? env.locals = none := by
    cases hq : g.get? env.locals with
    | none => rfl
    | some o => exact absurd (Nat.lt_of_lt_of_le (Heap.lt_size hq) F.above) (Nat.lt_irrefl _)
  have Na := N _ List.mem_cons_self
  have NC := N _ (List.mem_cons_of_mem _ List.mem_cons_self)
  have ND := N _ (List.mem_cons_of_mem _ (List.mem_cons_of_mem _ List.mem_cons_self))
  obtain ⟨ks, hks⟩ : ∃ ks : List Addr, ks = [env.locals, D, a] := ⟨_, rfl⟩
  have hksa : ∀ b ∈ ks, @LE.le Nat _ b a ∧ g.get? b = none := by
    rw [hks]
    intro b hb
    simp only [List.mem_cons, List.not_mem_nil, or_false] at hb
    rcases hb with rfl | rfl | rfl
    · exact ⟨Nat.le_of_lt (Nat.lt_trans hLC hCa), hLn⟩
    · exact ⟨Nat.le_of_lt (Nat.lt_trans hDC hCa), ND.2.2⟩
    · exact ⟨Nat.le_refl _, Na.2.2⟩
  have hCks : C ∉ ks := by
    rw [hks]
    intro hb
    simp only [List.mem_cons, List.not_mem_nil, or_false] at hb
    rcases hb with h | h | h
    · exact absurd hLC (by rw [h]; exact Nat.lt_irrefl _)
    · exact absurd hDC (by rw [h]; exact Nat.lt_irrefl _)
    · exact absurd hCa (by rw [h]; exact Nat.lt_irrefl _)
  have hLks : env.locals ∈ ks := by rw [hks]; exact List.mem_cons_self
  have hDks : D ∈ ks := by rw [hks]; exact List.mem_cons_of_mem _ List.mem_cons_self
  have haks : a ∈ ks := by rw [hks]; exact List.mem_cons_of_mem _ (List.mem_cons_of_mem _ List.mem_cons_self)
  obtain ⟨o1, nm, qn, hgo1, hgo2, hgo3, hgo4⟩ := hG
  have e1 : o1 = og := by rw [Na.1] at hgo1; exact (Option.some.inj hgo1).symm
  subst e1
  refine codeAny_forLoop (I := fun k s' => ∃ (us : List Value) (kk : Nat) (u : Str → Option Value) (h : Heap) (tk : Nat) (G : Array GenState) (gs : GenState), s' = { s with heap := h, toks := tk, gens := G } ∧ k = 10 - us.length ∧ us.length < 9 ∧ IntsAre us (ys.take us.length) ∧
    Fr g env.locals h (fun z => if z = Str.ofString "size" then u z else m₀ z) ∧ News g env.locals h [(a, o1), (D, listOf us.toArray kk)] ∧ G[gno]? = some gs ∧ (AllBare G₀ → AllBare G) ∧
    gs.Goes (model prog w) A.in1 (fun n s₀ r s₁ => r = .ok (.ret .none) ∧ (ys.length ≤ 9 - n ∧ GKeep g ks s₀ s₁)) (genY g C a ks ys) (9 - us.length) (.send .none) (Shared.setGen { s with heap := h, toks := tk, gens := G } gno .running)) ?_ 10 ?_
  · rintro k s' ⟨us, kk, u, h, tk, G, gs, rfl, rfl, h9, hI, F, N, hgs, hb, hgo⟩
    obtain ⟨q, hq⟩ : ∃ q, 9 - us.length = q + 1 := ⟨8 - us.length, by omega⟩
    rw [hq] at hgo
    have hlen : us.length ≤ ys.length := by
      have := hI.length
      rw [List.length_take] at this
      omega
    refine next_gen (P := fun n s₀ s₁ => ys.length ≤ 9 - n ∧ GKeep g ks s₀ s₁) hh (hNL.keeps F.keep) hroom ⟨o1, nm, qn, (N _ List.mem_cons_self).1, hgo2, hgo3, hgo4⟩ hgs hgo ?_ ?_
    · rintro v s₁ gs' hbare ⟨⟨y, t, hy, rfl⟩, ⟨h1, tk1, rfl, hk1, hks1⟩, I, oC1, oI, haI, hC1, hI1, hkap⟩
      have F1 : Fr g env.locals h1 (fun z => if z = Str.ofString "size" then u z else m₀ z) := ⟨F.ns.at' fun o e => hks1 _ hLks o e, hk1, F.above⟩
      have hI0 : g.get? I = none := by
        cases hq : g.get? I with
        | none => rfl
        | some o => exact absurd (Nat.lt_of_lt_of_le (Heap.lt_size hq) F.above) (Nat.not_lt.mpr (Nat.le_of_lt (Nat.lt_trans (Nat.lt_trans hLC hCa) haI)))
      have hIL : I ≠ env.locals := fun e => absurd (Nat.lt_trans (Nat.lt_trans hLC hCa) haI) (by rw [e]; exact Nat.lt_irrefl _)
      have N1 : News g env.locals h1 [(a, o1), (D, listOf us.toArray kk), (C, oC1), (I, oI)] := by
        intro p hp
        simp only [List.mem_cons, List.not_mem_nil, or_false] at hp
        rcases hp with rfl | rfl | rfl | rfl
        · exact ⟨hks1 _ haks _ (N _ List.mem_cons_self).1, Na.2⟩
        · exact ⟨hks1 _ hDks _ (N _ (List.mem_cons_of_mem _ List.mem_cons_self)).1, ND.2⟩
        · exact ⟨hC1, NC.2⟩
        · exact ⟨hI1, hIL, hI0⟩
      refine wpAny_assign_Name (wpAny_storeName_local hx F1.ns (fun h2 hn2 hs2 => ?_) hp)
      have F2 : Fr g env.locals h2 (fun z => if z = Str.ofString "size" then some (.int y t) else m₀ z) := by
        have := F1.set hn2 hs2
        have e : (fun z => if z = Str.ofString "size" then some (Value.int y t) else if z = Str.ofString "size" then u z else m₀ z) = fun z => if z = Str.ofString "size" then some (Value.int y t) else m₀ z := by
          funext z
          by_cases h1 : z = Str.ofString "size" <;> simp [h1]
        exact e ▸ this
      have hyi : ys[us.length]? = some y := by
        rw [show 8 - (q + 1 - 1) = us.length by omega] at hy
        exact hy
      have hb2 : AllBare G₀ → AllBare ((Shared.setGen (Shared.setGen { s with heap := h, toks := tk, gens := G } gno .running) gno gs').gens) := fun hx => bare_set (bare_set (hb hx) rfl) hbare
      refine wpAny_mono (turn us kk y t oC1 I oI u h2 _ _ hI h9 hyi hb2 ⟨Nat.ne_of_gt (Nat.lt_trans hDC hCa), Nat.ne_of_gt hDC, Nat.ne_of_gt (Nat.lt_trans (Nat.lt_trans hDC hCa) haI)⟩ F2 (N1.set hs2)) (fun f s₃ he => ?_) fun _ _ e => e
      cases f with
      | brk => exact he.2
      | ret v => exact he.elim
      | cont => exact he.elim
      | next =>
        obtain ⟨h10, h3, tk3, m3, kk3, rfl, F3, hm3, N3⟩ := he
        rw [List.length_append, List.length_singleton] at h10
        obtain ⟨q2, rfl⟩ : ∃ q2, q = q2 + 1 := ⟨q - 1, by omega⟩
        refine ⟨10 - (us.length + 1), by omega, us ++ [.int y t], kk3, m3, h3, tk3, _, gs', rfl, by rw [List.length_append, List.length_singleton], by rw [List.length_append, List.length_singleton]; omega, ?_, fr_off1 hm3 F3, ?_, setGen_self (gs := .running) (setGen_self hgs), hb2, ?_⟩
        · rw [List.length_append, List.length_singleton, List.take_add_one, hyi]
          exact IntsAre.append hI (.cons _ _ .nil)
        · intro p hp
          refine N3 p ?_
          simp only [List.mem_cons, List.not_mem_nil, or_false] at hp ⊢
          rcases hp with h | h
          · exact .inl h
          · exact .inr (.inl h)
        · rw [List.length_append, List.length_singleton, show 9 - (us.length + 1) = q2 + 1 by omega]
          exact hkap (by omega) _ F3.keep (N3 (C, oC1) (by simp)).1 (N3 (I, oI) (by simp)).1
    · rintro s₁ ⟨hl9, h1, tk1, rfl, hk1, hks1⟩ h' hk'
      refine wpAny_execs_nil ?_
      have F1 : Fr g env.locals h' (fun z => if z = Str.ofString "size" then u z else m₀ z) := ⟨F.ns.at' fun o e => hk' _ _ (hks1 _ hLks o e), fun b o e => hk' _ _ (hk1 b o e), F.above⟩
      refine done us kk u h' _ _ ?_ (fun hx => bare_set (x := .finished) (bare_set (x := .running) (hb hx) rfl) rfl) F1 ?_
      · have : ys.take us.length = ys := List.take_of_length_le (by omega)
        rw [this] at hI
        exact hI
      · intro p hp
        simp only [List.mem_cons, List.not_mem_nil, or_false] at hp
        rcases hp with rfl | rfl
        · exact ⟨hk' _ _ (hks1 _ haks _ (N _ List.mem_cons_self).1), Na.2⟩
        · exact ⟨hk' _ _ (hks1 _ hDks _ (N _ (List.mem_cons_of_mem _ List.mem_cons_self)).1), ND.2⟩
  · refine ⟨[], 0, m₀, s.heap, s.toks, s.gens, .fresh c, rfl, rfl, by decide, .nil, fr_off1 (fun _ _ => rfl) F, ?_, hgs, hb, rfl, ?_⟩
    · intro p hp
      refine N p ?_
      simp only [List.mem_cons, List.not_mem_nil, or_false] at hp ⊢
      rcases hp with h | h
      · exact .inl h
      · exact .inr (.inr h)
    · exact hseg A.in1 _ ks hh F.keep NC.1 Na.1 hCks hksa
end
end SC12b
section SB42
/-- none of the ledger's objects lies at D -/
noncomputable def OffD (D : Addr) : List (Addr × Obj) → Prop
  | [] => True
  | p :: r => @Ne Nat p.1 D ∧ OffD D r
theorem offD_of {D : Addr} : ∀ {l : List (Addr × Obj)}, (∀ p ∈ l, p.1 ≠ D) → OffD D l
  | [], _ => trivial
  | _ :: _, h => ⟨h _ List.mem_cons_self, offD_of fun p hp => h p (List.mem_cons_of_mem _ hp)⟩
theorem OffD.at {D c : Addr} {o : Obj} : ∀ {l : List (Addr × Obj)}, OffD D l → (c, o) ∈ l → @Ne Nat c D
  | _ :: _, h, .head _ => h.1
  | _ :: _, h, .tail _ m => OffD.at h.2 m
/-- a call that hands back a list of its own making -/
theorem useL {w : World} {mean : ExcName → Option Value} {mg mb : Str → Option Value} {f : Addr} {vs : List Value} {d u : Nat} {Pre : Heap → Prop} {R : List Value → Prop} {dp un : Nat} {gd : Option (List Code)} {cn : Str} {cs : Scope} {a : Addr} {ccd : Value} {cl : List (Str × Addr)} {outer : List Env}
    {A₀ : Around} {base h₀ : Heap} {L : Addr} {m : Str → Option Value} {s : Shared} {Q E : Value → Shared → Prop} {news : List (Addr × Obj)} (S : Spec f vs d u Pre (fun h h' v => ∃ D us n, v = .ref D ∧ h.get? D = none ∧ h'.get? D = some (listOf (List.toArray us) n) ∧ R us))
    (B : Below A₀ base outer h₀) (F : Fr h₀ L s.heap m) (X : (hd.heap_39 w.params).In h₀) (T : Top hd.view_39 LS mean mg mb h₀) (N : News h₀ L s.heap news) (hk : cs.kind = .function) (hd : dp + d < recursionLimit) (hu : un + u < cLine) (hp : Pre s.heap)
    (h : ∀ D us n h' tk', Fr h₀ L h' m → News h₀ L h' ((D, listOf (List.toArray us) n) :: news) → OffD D news → @Ne Nat D L → R us → Q (.ref D) { s with heap := h', toks := tk' }) :
    wpAny (model PySem.Challenge.rw_wo0041_01.row.prog w) (ktrTop dp un gd cn cs L a ccd cl outer) (call (.ref f) vs) Q E s := by
  refine use S B F X T N hk hd hu hp fun v h' tk' F' N' st po => ?_
  obtain ⟨D, us, n, rfl, hD, hD', hR⟩ := po
  have hDL : D ≠ L := fun e => by
    obtain ⟨oL, _, _, hL, _⟩ := F.ns
    rw [e, hL] at hD; cases hD
  have hD0 : h₀.get? D = none := by
    cases hq : h₀.get? D with
    | none => rfl
    | some o => rw [F.keep _ _ hq] at hD; cases hD
  refine h D us n h' tk' F' ?_ (offD_of fun p hp e => ?_) hDL hR
  · intro p hp
    rcases List.mem_cons.mp hp with rfl | hp
    · exact ⟨hD', hDL, hD0⟩
    · exact N' p hp
  · have := (N p hp).1
    rw [e, hD] at this; cases this
theorem ite_mono {c : Bool} {P P' Q Q' : Prop} (h : if c = true then P else Q) (h1 : P → P') (h2 : Q → Q') : if c = true then P' else Q' := by
  cases c with
  | true => exact h1 h
  | false => exact h2 h
section
variable {prog : Program} {w : World} {A : Around} {h₀ : Heap} {L : Addr} {m : Str → Option Value} {env : Env} {ct elt : Expr} {x : Str} {scope : Scope} {cl : List (Str × Addr)} {s : Shared} {S : List (Addr × Obj) → Prop} {P : Nat → Value → Prop} {Fin : List Value → List (Addr × Obj) → Prop} {news : List (Addr × Obj)}
theorem comp_restT {n : Nat} {ks : List Int} (p : Int → Bool) (R : Int → Value → Prop) (hks : ks.length = n) (hP : ∀ i v, i < n → P i v → ∃ k t, ks[i]? = some k ∧ v = .int k t)
    (turn : ∀ k t I oI C oC D m₂ ys h tk (E' : Value → Shared → Prop), k ∈ ks → LCg.NsObj oC m₂ → m₂ x = some (.int k t) → Fr h₀ L h m → News h₀ L h ((I, oI) :: (C, oC) :: (D, LCg.lst ys) :: news) → LCg.Off3 I C D news → ((@Ne Nat I C) ∧ (@Ne Nat I D) ∧ (@Ne Nat C D)) →
      wpAny (model prog w) A (isTrue ct (compEnvC scope cl C env) (eval ct (compEnvC scope cl C env))) (fun ok s' => if ok = true then
        wpAny (model prog w) A (eval elt (compEnvC scope cl C env)) (LCg.CompEnd h₀ L m { s with heap := h, toks := tk } I oI C oC D (LCg.lst ys) S (fun y news' => news' = news ∧ (p k = true ∧ R k y))) E' s'
        else LCg.CompEnd h₀ L m { s with heap := h, toks := tk } I oI C oC D (LCg.lst ys) S (fun _ news' => news' = news ∧ p k = false) Value.none s') E' { s with heap := h, toks := tk })
    (fin : ∀ ys, Each R (ks.filter p) ys → Fin ys news) : LCt.CompRestT prog w A h₀ L m env ct elt x scope cl s S P Fin n 0 [] news := by
  have key : ∀ (j i : Nat) (ys : List Value), i + j = n → Each R ((ks.take i).filter p) ys → LCt.CompRestT prog w A h₀ L m env ct elt x scope cl s S P Fin j i ys news := by
    intro j
    induction j with
    | zero =>
      intro i ys hi hy
      have e : i = ks.length := by omega
      subst e
      rw [List.take_length] at hy
      exact LCt.CompRestT.zero (fin ys hy)
    | succ j ih =>
      intro i ys hi hy
      refine LCt.CompRestT.succ ?_
      intro v I oI C oC D m₂ h tk E' hv hC hx F N off ne
      obtain ⟨k, t, hk, hv'⟩ := hP i v (by omega) hv
      rw [hv'] at hx
      refine wpAny_mono (turn k t I oI C oC D m₂ ys h tk E' (List.mem_of_getElem? hk) hC hx F N off ne) (fun ok s' hq => ite_mono hq (fun q => wpAny_mono q (fun y s₂ hq => ?_) fun _ _ e => e) (fun q => ?_)) fun _ _ e => e
      · obtain ⟨h', tk', nw, e, F', N', off', hS, hn, hp, hr⟩ := hq
        rw [hn] at N' off' hS
        refine ⟨h', tk', news, e, F', N', off', hS, ?_⟩
        refine ih (i + 1) _ (by omega) ?_
        rw [List.take_add_one, hk, List.filter_append]
        simp only [Option.toList_some, List.filter_cons, hp, List.filter_nil, if_true]
        exact Each.snoc hr hy
      · obtain ⟨h', tk', nw, e, F', N', off', hS, hn, hp⟩ := q
        rw [hn] at N' off' hS
        refine ⟨h', tk', news, e, F', N', off', hS, ?_⟩
        refine ih (i + 1) _ (by omega) ?_
        rw [List.take_add_one, hk, List.filter_append]
        simp only [Option.toList_some, List.filter_cons, hp, List.filter_nil, Bool.false_eq_true, if_false, List.append_nil]
        exact hy
  exact key n 0 [] (by omega) (by simp only [List.take_zero, List.filter_nil]; exact .nil)
end
section
variable {prog : Program} {w : World} {A : Around} {E : Value → Shared → Prop} {s : Shared}
theorem item_intAt {value slice : Expr} {l : Addr} {vs : List Value} {ns : List Int} {k v : Int} {u : Tok} {Q : Value → Shared → Prop} (hl : s.heap.IsList l vs.toArray) (hi : IntsAre vs ns) (h0 : 0 ≤ k) (hx : ns[k.toNat]? = some v) (hfit : k < 2 ^ 63) (h : ∀ t, Q (.int v t) s)
    (hs : subscripted slice false (.ref l) (.int k u) = operate [.ref l, .int k u] (getItem (.ref l) (.int k u)) := by with_unfolding_all rfl) (hg : ∀ r, letTemporaryGo value (.ref l) r = pure () := by intro _; with_unfolding_all rfl) :
    wpAny (model prog w) A (subscriptTail value slice (.ref l) (.int k u)) Q E s := by
  have hlt : k < ns.length := by
    have := (List.getElem?_eq_some_iff.mp hx).1
    omega
  refine item_list_ints hl hi h0 hlt hfit (fun t => ?_) hs hg
  have e : ns.getD k.toNat 0 = v := by rw [List.getD_eq_getElem?_getD, hx]; rfl
  rw [e]
  exact h t
end
end SB42
section SC13b
/-- the parts of the law's def as they lie in the written heap -/
structure LawParts where
  s0 : Stmt
  s1 : Stmt
  s2 : Stmt
  s3 : Stmt
  s4 : Stmt
  s5 : Stmt
  s6 : Stmt
  s7 : Stmt
  s8 : Stmt
  s9 : Stmt
  s10 : Stmt
  s11 : Stmt
  s12 : Stmt
  s13 : Stmt
  s14 : Stmt
  s15 : Stmt
  s16 : Stmt
  s17 : Stmt
  s18 : Stmt
  s19 : Stmt
  s20 : Stmt
  s21 : Stmt
  s22 : Stmt
  s23 : Stmt
  s24 : Stmt
  sc : Scope
noncomputable def lawP (P : Params) : { p : LawParts // ∃ oc od name qual params dV kV doc pm an cdv ct osl, (hd.heap_39 P).lookup 171 = some ⟨oc, od, .func (fnOf name qual params [p.s0, p.s1, p.s2, p.s3, p.s4, p.s5, p.s6, p.s7, p.s8, p.s9, p.s10, p.s11, p.s12, p.s13, p.s14, p.s15, p.s16, p.s17, p.s18, p.s19, p.s20, p.s21, p.s22, p.s23, p.s24] p.sc dV kV doc pm an cdv ct), osl⟩ } :=
  ⟨⟨_, _, _, _, _, _, _, _, _, _, _, _, _, _, _, _, _, _, _, _, _, _, _, _, _, _⟩, _, _, _, _, _, _, _, _, _, _, _, _, _, by k_is⟩
/-- the law's environment -/
noncomputable abbrev lawEnv (P : Params) (L fa : Addr) (cdv : Value) : Env := envOfC (Str.ofString "law") (lawP P).1.sc L fa cdv
end SC13b
section SH
local macro_rules | `(tactic| walk_at "M call") => `(tactic| (k_dflt (refine' use ?hS ?hB ?hF ?hX ?hT ?hN ?hk ?hd ?hu ?hp ?_; (case hS => first | exact mul_spec _ _ _ _ (by first | assumption | k_extra "side") | exact add_spec _ _ _ _ | exact le_spec _ _ _ _ | k_extra "SPEC"); (case hB => assumption); (case hF => assumption); (case hX => assumption); (case hT => assumption); (case hN => assumption); (case hk => rfl); (case hd => ktr_room); (case hu => ktr_units); (case hp => first | trivial | k_extra "PRE"); k_whole; intro v h' tk' F' N' st po; first | (obtain ⟨_, e⟩ := po; subst e) | (have e := po; subst e; try clear po); clear st; (try dsimp only); (try k_fold))))
local macro_rules | `(tactic| walk_at "call ref") => `(tactic| walk_at "M call")
local macro_rules | `(tactic| walk_at "KswEnd") => `(tactic| k_extra "WE")
local macro_rules | `(tactic| walk_at "exec While Call cons nil") => `(tactic| k_dflt (first | k_extra "W" | refine Stop.go ?_))
local macro_rules | `(tactic| walk_at "exec While Compare cons nil") => `(tactic| k_dflt (first | k_extra "W" | refine Stop.go ?_))
local macro_rules | `(tactic| walk_at "exec While BoolOp cons nil") => `(tactic| k_dflt (first | k_extra "W" | refine Stop.go ?_))
local macro_rules | `(tactic| walk_at "CompSrc") => `(tactic| k_dflt (first | k_extra "CS" | refine Stop.go ?_))
local macro_rules | `(tactic| walk_at "eval ListComp") => `(tactic| (k_here; k_dflt (refine LCg.ListComp_U (F₀ := by k_asm) (by with_unfolding_all rfl) (by decide) (by rfl) (by decide) (by rfl) ?_)))
local macro_rules | `(tactic| walk_at "call type:str") => `(tactic| k_dflt (k_extra "STR"))
local macro_rules | `(tactic| walk_at "call builtin:str.join") => `(tactic| k_dflt (k_extra "JOIN"))
local macro_rules | `(tactic| walk_at "binaryOp Add str str") => `(tactic| k_dflt (k_extra "ADD"))
local macro_rules | `(tactic| walk_at "compareOp Eq ref ref") => `(tactic| (k_dflt (refine' eq_intsK ?k1 ?k2 ?k3 ?k4 ?k5 ?_; (case k1 => is_list); (case k2 => l_ints); (case k3 => is_list); (case k4 => l_ints); (case k5 => ktr_units); k_whole)))
local macro_rules | `(tactic| walk_at "subscriptTail Name Constant ref int") => `(tactic| k_dflt (k_extra "SUB"))
local macro_rules | `(tactic| walk_at "exec For Name Subscript cons nil") => `(tactic| (k_here; (rename Fr _ _ _ _ => lF'); (with_unfolding_all refine' For_invVF lF' ?k1 ?k2 ?_; (case k1 => exact rfl); (case k2 => exact rfl); k_whole)))
local macro_rules | `(tactic| walk_at "pyIter ref") => `(tactic| k_dflt (first | k_extra "LOOP" | refine Stop.go ?_))
local macro_rules | `(tactic| walk_at "InvEndN") => `(tactic| k_extra "LE")
local macro_rules | `(tactic| walk_at "binaryOp Pow int int") => `(tactic| k_dflt (k_extra "POW"))
local macro_rules | `(tactic| walk_at "binaryOp Mult str int") => `(tactic| k_dflt (k_extra "MULS"))
local macro_rules | `(tactic| walk_at "binaryOp Add ref ref") => `(tactic| k_dflt (k_extra "CAT"))
local macro_rules | `(tactic| walk_at "call builtin:list.insert") => `(tactic| k_dflt (k_extra "INS"))
local macro_rules | `(tactic| walk_at "truthy str") => `(tactic| k_dflt (k_extra "TRUTHY"))
local macro_rules | `(tactic| walk_at "call builtin:all") => `(tactic| k_dflt (k_extra "ALL"))
section SC4
theorem nilC4 : True := by
  k_with_none
  w_top off
  trivial
noncomputable def boundedS (ns : List Int) (b : Int) : Str := Str.ofString "1" ++ Txt.join (Str.ofString "") (ns.map fun p => factorS p (b - 1))
noncomputable def longS (ns : List Int) : Str := Str.ofString "1" ++ Txt.join (Str.ofString "") (ns.map fun p => factorS p (Int.fdiv 6 p + 1))
noncomputable def shortP (p : Int) : Str := Str.ofString "*(1+x**" ++ (toString p : String) ++ Str.ofString "+...)"
noncomputable def shortS (ns : List Int) : Str := Str.ofString "1" ++ Txt.join (Str.ofString "") (ns.map shortP)
/-- the parts -/
noncomputable def Parts (ns : List Int) : Prop := ns.length ≤ 6 ∧ ∀ x ∈ ns, 1 ≤ x ∧ x ≤ 6
theorem sum_len {g : Int → Str} {B : Nat} {ns : List Int} (hb : ns.length ≤ 6) (h : ∀ x ∈ ns, (g x).length ≤ B) : ((ns.map g).map (·.length)).sum ≤ B * 6 :=
  Nat.le_trans (sumLen_le_of_bound g B ns h) (Nat.mul_le_mul_left _ hb)
theorem shortP_len {p : Int} (h1 : 1 ≤ p) (h2 : p ≤ 6) : (shortP p).length ≤ 20 := by
  have := toString_length_le (v := p) (by omega) (k := 4) (by decide) (by omega)
  unfold shortP
  have e1 : (Str.ofString "*(1+x**").length = 7 := by decide +kernel
  have e2 : (Str.ofString "+...)").length = 5 := by decide +kernel
  rw [PySem.strLen_append, PySem.strLen_append]
  omega
theorem short_spec (l : Addr) (vs : List Value) (ns : List Int) (hP : Parts ns) : Spec 114 [.ref l] 2 20 (fun h => h.IsList l vs.toArray ∧ IntsAre vs ns) (fun _ _ v => ∃ t, v = .str (shortS ns) t) := by
  intro w mean mg mb dp un gd cn cs a ccd cl outer A₀ base h₀ L m s Q E B F X T hk hd hu hp hret
  k_dflt (refine' enter [(Str.ofString "parts", .ref l)] B F X T rfl rfl hk ?k6 ?k7 ?k8 ?k9 ?kB ?_ ?c2 ?c3 ?c4 ?c5; (case k6 => k_is); (case k7 => k_is); (case k8 => ktr_room); (case k9 => exact BindsTo.of_eq rfl); (case c5 => decide); (case kB => exact locs rfl); (case c2 => exact rfl); (case c3 => exact rfl); (case c4 => exact rfl); k_whole; intro g L' h' tk' eg F' N' B' X' T'; (try dsimp only))
  (try rw [← eg] at hp); rw [← eg] at hret
  clear B F X T eg
  (try k_unmd)
  k_fold
  obtain ⟨hl, hi⟩ := hp
  obtain ⟨hb, hr⟩ := hP
  have hJ := sum_len (g := shortP) hb fun x hx => shortP_len (hr x hx).1 (hr x hx).2
  have e1 : (Str.ofString "*(1+x**").length = 7 := by decide +kernel
  have e2 : (Str.ofString "+...)").length = 5 := by decide +kernel
  have e3 : (Str.ofString "").length = 0 := by decide +kernel
  have e4 : (Str.ofString "1").length = 1 := by decide +kernel
  have hJ2 := Nat.le_trans (join_nil_len _) hJ
  have hvl : vs.length = ns.length := hi.length
  k_with "CS" => (refine LCg.CompSrc.base (by rfl) (by k_asm) (by k_asm) hl (by rw [PySem.sizeLine_eq, List.size_toArray]; omega) ?_; intro g'; refine' comp_list (fun k y => ∃ t, y = Value.str (shortP k) t) hi (fun k t I oI C oC D m₂ ys h tk E' hk hC hx F N off ne => ?_) ?_; (all_goals (try (simp only [LCg.Off3, and_true] at off))); (all_goals (try k_fold)))
  k_with "STR" => (refine P.str_of_int (logOk (by have := hr _ hk; omega) (by have := hr _ hk; omega)) ?_)
  k_with "JOIN" => (refine join_list (by is_list) (Each.strs (by assumption)) (by rw [e3]; omega) ?_; intro t9 k9)
  k_with "ADD" => (refine add_str ?_ (by first
    | (have := hr _ hk; have := toString_length_le (v := k) (by omega) (k := 4) (by decide) (by omega); simp only [PySem.strLen_append, PySem.sizeLine_eq]; omega)
    | (simp only [PySem.strLen_append, PySem.sizeLine_eq]; omega)); intro t9 k9)
  k_steps
  k_with_none
  exact Back.ret (by assumption) fun st => hret _ _ _ st ⟨_, rfl⟩
theorem bounded_spec (l : Addr) (vs : List Value) (ns : List Int) (b : Int) (tb : Tok) (hP : Parts ns) (hb1 : 2 ≤ b) (hb2 : b ≤ 3) : Spec 104 [.ref l, .int b tb] 4 40 (fun h => h.IsList l vs.toArray ∧ IntsAre vs ns) (fun _ _ v => ∃ t, v = .str (boundedS ns b) t) := by
  intro w mean mg mb dp un gd cn cs a ccd cl outer A₀ base h₀ L m s Q E B F X T hk hd hu hp hret
  k_dflt (refine' enterC [(Str.ofString "parts", .ref l), (Str.ofString "bound", .int b tb)] B F X T rfl rfl hk ?k6 ?k7 ?k8 ?k9 ?kB ?kD ?_ ?c2 ?c3 ?c4; (case k6 => k_is); (case k7 => k_is); (case k8 => ktr_room); (case k9 => exact BindsTo.of_eq rfl); (case kB => exact rfl); (case kD => decide +kernel); (case c2 => exact rfl); (case c3 => exact rfl); (case c4 => exact rfl); k_whole; intro g L' h' tk' cells' eg F' N' Y' B' X' T'; k_cells Y'; (try dsimp only))
  (try rw [← eg] at hp); rw [← eg] at hret
  clear B F X T eg
  (try k_unmd)
  k_fold
  obtain ⟨hl, hi⟩ := hp
  obtain ⟨hb, hr⟩ := hP
  have hJ := sum_len (g := fun p => factorS p (b - 1)) (B := 70) hb fun x hx => factor_len (hr x hx).1 (hr x hx).2 (by omega) (by omega)
  have e3 : (Str.ofString "").length = 0 := by decide +kernel
  have e4 : (Str.ofString "1").length = 1 := by decide +kernel
  have hJ2 := Nat.le_trans (join_nil_len _) hJ
  have hvl : vs.length = ns.length := hi.length
  k_with "CS" => (refine LCg.CompSrc.base (by rfl) (by k_asm) (by k_asm) hl (by rw [PySem.sizeLine_eq, List.size_toArray]; omega) ?_; intro g'; refine' comp_list (fun k y => ∃ t, y = Value.str ((fun p => factorS p (b - 1)) k) t) hi (fun k t I oI C oC D m₂ ys h tk E' hk hC hx F N off ne => ?_) ?_; (all_goals (try (simp only [LCg.Off3, and_true] at off))); (all_goals (try k_fold)))
  k_with "SPEC" => exact factor_spec _ _ _ _ (hr _ hk).1 (hr _ hk).2 (by omega) (by omega)
  k_with "JOIN" => (refine join_list (by is_list) (Each.strs (by assumption)) (by rw [e3]; omega) ?_; intro t9 k9)
  k_with "ADD" => (refine add_str ?_ (by simp only [PySem.sizeLine_eq]; omega); intro t9 k9)
  k_steps
  k_with_none
  exact Back.ret (by assumption) fun st => hret _ _ _ st ⟨_, rfl⟩
theorem long_spec (l : Addr) (vs : List Value) (ns : List Int) (hP : Parts ns) : Spec 109 [.ref l] 4 40 (fun h => h.IsList l vs.toArray ∧ IntsAre vs ns) (fun _ _ v => ∃ t, v = .str (longS ns) t) := by
  intro w mean mg mb dp un gd cn cs a ccd cl outer A₀ base h₀ L m s Q E B F X T hk hd hu hp hret
  k_dflt (refine' enter [(Str.ofString "parts", .ref l)] B F X T rfl rfl hk ?k6 ?k7 ?k8 ?k9 ?kB ?_ ?c2 ?c3 ?c4 ?c5; (case k6 => k_is); (case k7 => k_is); (case k8 => ktr_room); (case k9 => exact BindsTo.of_eq rfl); (case c5 => decide); (case kB => exact locs rfl); (case c2 => exact rfl); (case c3 => exact rfl); (case c4 => exact rfl); k_whole; intro g L' h' tk' eg F' N' B' X' T'; (try dsimp only))
  (try rw [← eg] at hp); rw [← eg] at hret
  clear B F X T eg
  (try k_unmd)
  k_fold
  obtain ⟨hl, hi⟩ := hp
  obtain ⟨hb, hr⟩ := hP
  have hq : ∀ x : Int, 1 ≤ x → x ≤ 6 → 0 ≤ Int.fdiv 6 x + 1 ∧ Int.fdiv 6 x + 1 ≤ 8 := fun x h1 h2 => by
    have : x = 1 ∨ x = 2 ∨ x = 3 ∨ x = 4 ∨ x = 5 ∨ x = 6 := enumP7 (by omega) (by omega)
    rcases this with rfl | rfl | rfl | rfl | rfl | rfl <;> decide
  have hJ := sum_len (g := fun p => factorS p (Int.fdiv 6 p + 1)) (B := 70) hb fun x hx => factor_len (hr x hx).1 (hr x hx).2 (hq x (hr x hx).1 (hr x hx).2).1 (hq x (hr x hx).1 (hr x hx).2).2
  have e3 : (Str.ofString "").length = 0 := by decide +kernel
  have e4 : (Str.ofString "1").length = 1 := by decide +kernel
  have hJ2 := Nat.le_trans (join_nil_len _) hJ
  have hvl : vs.length = ns.length := hi.length
  k_with "CS" => (refine LCg.CompSrc.base (by rfl) (by k_asm) (by k_asm) hl (by rw [PySem.sizeLine_eq, List.size_toArray]; omega) ?_; intro g'; refine' comp_list (fun k y => ∃ t, y = Value.str ((fun p => factorS p (Int.fdiv 6 p + 1)) k) t) hi (fun k t I oI C oC D m₂ ys h tk E' hk hC hx F N off ne => ?_) ?_; (all_goals (try (simp only [LCg.Off3, and_true] at off))); (all_goals (try (have hk1 := (hr _ hk).1; have hk2 := (hr _ hk).2))); (all_goals (try k_fold)))
  k_with "SPEC" => exact factor_spec _ _ _ _ hk1 hk2 (hq _ hk1 hk2).1 (hq _ hk1 hk2).2
  k_with "JOIN" => (refine join_list (by is_list) (Each.strs (by assumption)) (by rw [e3]; omega) ?_; intro t9 k9)
  k_with "ADD" => (refine add_str ?_ (by simp only [PySem.sizeLine_eq]; omega); intro t9 k9)
  k_steps
  k_with_none
  exact Back.ret (by assumption) fun st => hret _ _ _ st ⟨_, rfl⟩
end SC4
section SC5
theorem nilC5 : True := by
  k_with_none
  w_top off
  trivial
theorem Each.bools {g : Int → Bool} : ∀ {ks : List Int} {ys : List Value}, Each (fun k y => y = Value.bool (g k)) ks ys → LSm.BoolsAre ys (ks.map g)
  | _, _, .nil => .nil
  | _, _, .cons e r => e ▸ .cons _ (Each.bools r)
noncomputable def takesP (ns ms : List Int) : Bool := if ns = [] ∨ ms = [] then decide (ns = ms) else (ns.getD 0 0 == ms.getD 0 0) && (ns.map (anyEq ms)).all id
theorem takes_spec (l l2 : Addr) (vs vs2 : List Value) (ns ns2 : List Int) (hb : ns.length ≤ 6) (hb2 : ns2.length ≤ 6) : Spec 166 [.ref l, .ref l2] 2 80 (fun h => h.IsList l vs.toArray ∧ IntsAre vs ns ∧ h.IsList l2 vs2.toArray ∧ IntsAre vs2 ns2) (fun _ _ v => v = .bool (takesP ns ns2)) := by
  intro w mean mg mb dp un gd cn cs a ccd cl outer A₀ base h₀ L m s Q E B F X T hk hd hu hp hret
  k_dflt (refine' enterC [(Str.ofString "brief", .ref l), (Str.ofString "wide", .ref l2)] B F X T rfl rfl hk ?k6 ?k7 ?k8 ?k9 ?kB ?kD ?_ ?c2 ?c3 ?c4; (case k6 => k_is); (case k7 => k_is); (case k8 => ktr_room); (case k9 => exact BindsTo.of_eq rfl); (case kB => exact rfl); (case kD => decide +kernel); (case c2 => exact rfl); (case c3 => exact rfl); (case c4 => exact rfl); k_whole; intro g L' h' tk' cells' eg F' N' Y' B' X' T'; k_cells Y'; (try dsimp only))
  (try rw [← eg] at hp); rw [← eg] at hret
  clear B F X T eg
  (try k_unmd)
  k_fold
  obtain ⟨hl, hi, hl2, hi2⟩ := hp
  have hvl : vs.length = ns.length := hi.length
  have pos : ∀ xs : List Int, ¬ xs = [] → 0 < xs.length := fun xs h => by cases xs with | nil => exact absurd rfl h | cons _ _ => simp
  k_with "CS" => (refine LCg.CompSrc.base (by rfl) (by k_asm) (by k_asm) hl (by rw [PySem.sizeLine_eq, List.size_toArray]; omega) ?_; intro g'; refine' comp_list (fun k y => y = Value.bool (anyEq ns2 k)) hi (fun k t I oI C oC D m₂ ys h tk E' hk hC hx F N off ne => ?_) ?_; (all_goals (try (simp only [LCg.Off3, and_true] at off))); (all_goals (try k_fold)))
  k_with "SUB" => first | (refine item_list_ints hl hi (by decide) (by have := pos ns (by assumption); simpa using this) (by decide) ?_; intro t9) | (refine item_list_ints hl2 hi2 (by decide) (by have := pos ns2 (by assumption); simpa using this) (by decide) ?_; intro t9)
  k_with "ALL" => (refine LSm.all_bools (by k_asm) (by k_asm) (by rfl) (by is_list) (Each.bools (by assumption)) ?_; intro h9 tk9 F9 N9)
  k_steps
  k_with_none
  · have h1 := of_decide_eq_true ‹decide (ns = []) = true›
    (try dsimp only)
    exact Back.ret (by assumption) fun st => hret _ _ _ st (congrArg Value.bool (by unfold takesP; rw [if_pos (Or.inl h1)]))
  · have h1 := of_decide_eq_true ‹decide (ns2 = []) = true›
    (try dsimp only)
    exact Back.ret (by assumption) fun st => hret _ _ _ st (congrArg Value.bool (by unfold takesP; rw [if_pos (Or.inr h1)]))
  · have h1 := of_decide_eq_false ‹decide (ns = []) = false›
    have h2 := of_decide_eq_false ‹decide (ns2 = []) = false›
    have h3 : (ns.getD 0 0 == ns2.getD 0 0) = true := beq_iff_eq.mpr (by assumption)
    exact Back.ret (by assumption) fun st => hret _ _ _ st (congrArg Value.bool (by unfold takesP; rw [if_neg (fun h => h.elim h1 h2), h3, Bool.true_and]))
  · have h1 := of_decide_eq_false ‹decide (ns = []) = false›
    have h2 := of_decide_eq_false ‹decide (ns2 = []) = false›
    have h3 : (ns.getD 0 0 == ns2.getD 0 0) = false := beq_eq_false_iff_ne.mpr (by assumption)
    (try dsimp only)
    exact Back.ret (by assumption) fun st => hret _ _ _ st (congrArg Value.bool (by unfold takesP; rw [if_neg (fun h => h.elim h1 h2), h3, Bool.false_and]; exact h3))
end SC5
section SC6
theorem nilC6 : True := by
  k_with_none
  w_top off
  trivial
theorem powFit {x : Int} (h1 : 0 ≤ x) (h2 : x ≤ 9) : (0 : Int) < 10 ^ x.toNat ∧ (10 : Int) ^ x.toNat < 1073741824 ∧ fit (10 ^ x.toNat) = true := by
  have : x = 0 ∨ x = 1 ∨ x = 2 ∨ x = 3 ∨ x = 4 ∨ x = 5 ∨ x = 6 ∨ x = 7 ∨ x = 8 ∨ x = 9 := enumZ10 (by omega) (by omega)
  rcases this with rfl | rfl | rfl | rfl | rfl | rfl | rfl | rfl | rfl | rfl <;> exact ⟨by decide +kernel, by decide +kernel, by decide +kernel⟩
theorem getD_mem {ns : List Int} (hn : 0 < ns.length) : ns.getD 0 0 ∈ ns := by cases ns with | nil => exact absurd hn (Nat.lt_irrefl _) | cons a r => exact List.mem_cons_self
section
variable {prog : Program} {w : World} {A : Around} {E : Value → Shared → Prop} {s : Shared} {env : Env} {h₀ : Heap} {x : Str} {body : List Stmt} {Q : Flow → Shared → Prop}
/-- a loop over a made list of ints that turns one made object -/
theorem loop_one {σ : Type} {D wl : Addr} {vs : List Value} {ns : List Int} {nn : Nat} {m₀ : Str → Option Value} {rest : List (Addr × Obj)} (O : σ → Obj) (ps : σ → List (Str × Value)) (stored : List Str) (P : List Int → σ → Prop) (c₀ : σ)
    (hh : A.handled = none) (hi : IntsAre vs ns) (F : Fr h₀ env.locals s.heap m₀) (N : News h₀ env.locals s.heap ((D, listOf vs.toArray nn) :: (wl, O c₀) :: rest)) (hk : ∀ p ∈ ps c₀, m₀ p.1 = some p.2) (hp : P [] c₀)
    (turn : ∀ (c : σ) pre post n t (u : Str → Option Value) h tk own, ns = pre ++ n :: post → n ∈ ns → OwnOff own (D :: wl :: rest.map (·.1)) → P pre c →
      Fr h₀ env.locals h (fun y => if y = x then some (.int n t) else kstB (fun z => if stored.contains z then u z else m₀ z) (ps c) y) → News h₀ env.locals h ((D, listOf vs.toArray nn) :: (wl, O c) :: (rest ++ own)) →
      wpAny (model prog w) A (execs body env) (InvPostN h₀ env.locals (KstS (fun c => (D, listOf vs.toArray nn) :: (wl, O c) :: rest) ps (fun _ => True) x stored m₀ P (pre ++ [n])) own (D :: wl :: rest.map (·.1)) { s with heap := h, toks := tk } Q) E { s with heap := h, toks := tk })
    (done : ∀ (c : σ) (u : Str → Option Value) h tk, P ns c → Fr h₀ env.locals h (fun y => if y = x then u y else kstB (fun z => if stored.contains z then u z else m₀ z) (ps c) y) → News h₀ env.locals h ((D, listOf vs.toArray nn) :: (wl, O c) :: rest) → Q .next { s with heap := h, toks := tk }) :
    wpAny (model prog w) A (pyIter (.ref D)) (fun it s₂ => LoopAtV prog w A h₀ env x body Q E it s₂) E s :=
  kst_listL (fun c => (D, listOf vs.toArray nn) :: (wl, O c) :: rest) ps (fun _ => True) stored P c₀ hh (fun _ => List.mem_cons_self) hi F N trivial hk hp
    (fun c pre post n t u h tk own e hm ho _ hP F' N' => turn c pre post n t u h tk own e hm ho hP F' N') (fun c u h tk _ hP F' N' => done c u h tk hP F' N')
end
theorem foldl_rep (c : Nat) : ∀ (k : Nat) (acc : Array Nat), ((List.replicate k (#[c] : Array Nat)).foldl (· ++ ·) acc).toList = acc.toList ++ List.replicate k c
  | 0, acc => by simp
  | k + 1, acc => by
    rw [List.replicate_succ, List.foldl_cons, foldl_rep c k]
    simp [List.replicate_succ]
theorem zeros_cps (n : Int) : (Txt.mul (Str.ofString "0") n).cps.toList = List.replicate n.toNat 48 := by
  have e0 : Str.ofString "0" = ⟨#[48]⟩ := by decide +kernel
  rw [e0]
  unfold Txt.mul
  split
  · rename_i h
    rw [show n.toNat = 0 by omega]; rfl
  · split
    · rename_i h1 h2
      have : n = 1 := by simpa [Str.length] using h2
      subst this; rfl
    · exact (foldl_rep 48 n.toNat #[]).trans (by simp)
theorem zeros_len (n : Int) : (Txt.mul (Str.ofString "0") n).length = n.toNat := by
  show (Txt.mul (Str.ofString "0") n).cps.size = _
  rw [← Array.length_toList, zeros_cps, List.length_replicate]
theorem zerosOk {n : Int} (h1 : -100 ≤ n) (h2 : n ≤ 100) : MulOk (Str.ofString "0") n := mulOk_of 16 1048576 (by decide +kernel) (by omega) (by omega) (by decide) (by decide)
noncomputable def padS (size n : Int) : Str := Txt.mul (Str.ofString "0") (size - ((Str.ofString (toString n)).length : Nat)) ++ Str.ofString (toString n)
noncomputable def groupStep (st : Int × List Str) (size : Int) : Int × List Str := (Int.fdiv st.1 (10 ^ size.toNat), padS size (Int.fmod st.1 (10 ^ size.toNat)) :: st.2)
noncomputable def groupsS (N : Int) (ns : List Int) : List Str :=
  let st := (ns.take 8).foldl groupStep (N * 10 ^ (ns.getD 0 0).toNat, [])
  Str.ofString (toString st.1) :: st.2
noncomputable def big : Int := 2 ^ 1040
theorem big_log {x : Int} (h0 : 0 ≤ x) (h : x < big) : x.natAbs.log2 < 1920 := by
  rcases Nat.eq_zero_or_pos x.natAbs with e | hp
  · rw [e]; decide
  · refine (Nat.log2_lt (Nat.ne_of_gt hp)).mpr ?_
    have : x.natAbs < 2 ^ 1040 := by
      have e : ((2 ^ 1040 : Nat) : Int) = big := by decide +kernel
      rw [← e] at h
      exact Int.ofNat_lt.mp (by rw [Int.natAbs_of_nonneg h0]; exact h)
    exact Nat.lt_of_lt_of_le this (Nat.pow_le_pow_right (by decide) (by decide))
theorem div_big {x y : Int} (h0 : 0 ≤ x) (h : x < big) (hy : 0 < y) : 0 ≤ Int.fdiv x y ∧ Int.fdiv x y < big := by
  rw [Int.fdiv_eq_ediv_of_nonneg _ (by omega)]
  exact ⟨Int.ediv_nonneg h0 (by omega), Int.lt_of_le_of_lt (Int.ediv_le_self _ h0) h⟩
theorem mod_pow {x n : Int} (h0 : 0 ≤ x) (h1 : 1 ≤ n) (h2 : n ≤ 9) : 0 ≤ Int.fmod x (10 ^ n.toNat) ∧ Int.fmod x (10 ^ n.toNat) < 1073741824 ∧ (Str.ofString (toString (Int.fmod x (10 ^ n.toNat)))).length ≤ n.toNat := by
  have hp := powFit (x := n) (by omega) h2
  have e := fmod_lo x hp.1
  have e2 := fmod_hi x hp.1
  exact ⟨e, by omega, toString_length_le e (by omega) e2⟩
theorem start_big {N t : Int} (h0 : 0 ≤ N) (h1 : fit N = true) (h2 : 0 ≤ t) (h3 : t ≤ 9) : 0 ≤ N * 10 ^ t.toNat ∧ N * 10 ^ t.toNat < big := by
  have hp := powFit h2 h3
  refine ⟨Int.mul_nonneg h0 (by omega), ?_⟩
  have h4 : N < 2 ^ 1000 := by
    have := fit_lt h1
    have e : ((2 ^ 1000 : Nat) : Int) = 2 ^ 1000 := by decide +kernel
    rw [← e]
    have h5 : ((N.natAbs : Nat) : Int) < ((2 ^ 1000 : Nat) : Int) := Int.ofNat_lt.mpr this
    rw [Int.natAbs_of_nonneg h0] at h5
    exact h5
  have h5 : N * 10 ^ t.toNat ≤ 2 ^ 1000 * 1073741824 := Int.mul_le_mul (Int.le_of_lt h4) (Int.le_of_lt hp.2.1) (by omega) (by decide +kernel)
  exact Int.lt_of_le_of_lt h5 (by decide +kernel)
theorem kl_ins0 (l : List Value) (y : Value) : kl_ins l 0 y = y :: l := by unfold kl_ins; simp
theorem groups_spec (N : Int) (tN : Tok) (l : Addr) (vs : List Value) (ns : List Int) (h0 : 0 ≤ N) (h1 : fit N = true) (hn : 0 < ns.length) (hn2 : ns.length < 100) (hsz : ∀ x ∈ ns, 1 ≤ x ∧ x ≤ 9) : Spec 149 [.int N tN, .ref l] 4 80 (fun h => h.IsList l vs.toArray ∧ IntsAre vs ns)
    (fun h h' v => ∃ a us n, v = .ref a ∧ h.get? a = none ∧ h'.get? a = some (listOf us.toArray n) ∧ StrsAre us (groupsS N ns)) := by
  intro w mean mg mb dp un gd cn cs a ccd cl outer A₀ base h₀ L m s Q E B F X T hk hd hu hp hret
  k_dflt (refine' enter [(Str.ofString "number", .int N tN), (Str.ofString "told", .ref l)] B F X T rfl rfl hk ?k6 ?k7 ?k8 ?k9 ?kB ?_ ?c2 ?c3 ?c4 ?c5; (case k6 => k_is); (case k7 => k_is); (case k8 => ktr_room); (case k9 => exact BindsTo.of_eq rfl); (case c5 => decide); (case kB => exact locs rfl); (case c2 => exact rfl); (case c3 => exact rfl); (case c4 => exact rfl); k_whole; intro g L' h' tk' eg F' N' B' X' T'; (try dsimp only))
  (try rw [← eg] at hp); rw [← eg] at hret
  clear B F X T eg
  (try k_unmd)
  k_fold
  obtain ⟨hl, hi⟩ := hp
  have ht0 := hsz _ (getD_mem hn)
  have hpw := powFit (x := ns.getD 0 0) (by omega) (by omega)
  have hs8 : ∀ x ∈ ns.take 8, 1 ≤ x ∧ x ≤ 9 := fun x hx => hsz x (List.mem_of_mem_take hx)
  have hl8 : (ns.take 8).length ≤ 8 := List.length_take_le ..
  have hsb := start_big h0 h1 (t := ns.getD 0 0) (by omega) (by omega)
  k_with "POW" => (refine pow_int_small (by have := hsz _ (getD_mem hn); first | (exact Int.le_trans (by decide) this.1) | omega) (by have := hsz _ (getD_mem hn); first | (exact Int.le_trans this.2 (by decide)) | omega) (by decide) ?_)
  k_with "side" => exact fitMul h1 hpw.2.2
  k_with "SPEC" => first | exact mod_spec _ _ _ _ hpn.1 | exact floordiv_spec _ _ _ _ hpn.1 hpn.2.1
  k_with "STR" => first | (refine P.str_of_int (big_log hnum.1 hnum.2) ?_) | (refine P.str_of_int (logOk hmp.1 (by have := hmp.2.1; omega)) ?_)
  k_with "MULS" => (refine SB.mul (zerosOk (by omega) (by omega)) ?_; intro t9 k9)
  k_with "ADD" => (refine add_str ?_ (by rw [zeros_len, PySem.sizeLine_eq]; omega); intro t9 k9)
  k_with "INS" => (refine' kl_insert (l := _ :: ws) ?F ?N ?f ?e ?U ?z ?_; (case F => assumption); (case N => assumption); (case f => rfl); (case e => exact kl_ins0 _ _); (case U => exact Upd.tail (by k_ne) (Upd.head (fun p hp => OwnOff.ne ho (List.mem_cons_of_mem _ List.mem_cons_self) p (by simpa using hp)))); (case z => (rw [PySem.sizeLine_eq]; simp only [List.toList_toArray]; omega)); intro h9 F9 N9)
  k_with "LOOP" => ((rename Fr _ _ _ _ => lF); (rename News _ _ _ _ => lN); (rename IntsAre _ _ => lI); refine loop_one (fun c : (Int × Tok) × (List Value × List Str × Nat) => listOf c.2.1.toArray c.2.2.2) (fun c => [(Str.ofString "number", .int c.1.1 c.1.2)]) [Str.ofString "word"] (fun pre c => StrsAre c.2.1 c.2.2.1 ∧ (c.1.1, c.2.2.1) = pre.foldl groupStep (N * 10 ^ (ns.getD 0 0).toNat, []) ∧ (0 ≤ c.1.1 ∧ c.1.1 < big) ∧ c.2.1.length = pre.length) ((N * 10 ^ (ns.getD 0 0).toNat, _), ([], [], 0)) (by rfl) lI lF lN (by kst_all) ⟨.nil, rfl, hsb, rfl⟩ ?turn ?done; (case' turn => (rintro ⟨⟨num, tn⟩, ws, ys, k⟩ pre post n t u h tk own e hm ho ⟨hS, hG, hnum, hlen⟩ F N; dsimp only at hS hG hnum hlen F N; have hn9 := hs8 n hm; have hpn := powFit (x := n) (by omega) (by omega); have hmp := mod_pow hnum.1 hn9.1 hn9.2; have hpre : pre.length ≤ 8 := (by have e9 := congrArg List.length e; rw [List.length_append] at e9; omega); (try k_unmd); (try k_fold))); (case' done => (rintro ⟨⟨num, tn⟩, ws, ys, k⟩ u h tk ⟨hS, hG, hnum, hlen⟩ F N; dsimp only at hS hG hnum hlen F N; (try k_fold))))
  k_steps
  k_with_none
  · refine Back.ret (by assumption) fun st => hret _ _ _ st ⟨_, _, 0, rfl, ?_, News.get (by assumption) List.mem_cons_self, ?_⟩
    · exact News.fresh (h₀ := g) (by assumption) List.mem_cons_self
    · have e : groupsS N ns = Str.ofString (toString num) :: ys := by unfold groupsS; rw [← hG]
      rw [e]
      exact .cons _ _ (by assumption)
  · refine' kst_end ((Int.fdiv num (10 ^ n.toNat), _), (_ :: ws, padS n (Int.fmod num (10 ^ n.toNat)) :: ys, k + 1)) (by assumption) (by assumption) ?c1 ?c2 rfl trivial ?c3 ?c4 ⟨.cons _ _ hS, ?_, div_big hnum.1 hnum.2 hpn.1, ?_⟩
    case c3 => kst_all
    case c1 => kst_in
    case c2 => (intro p hp; kst_mem)
    case c4 => (intro z h1 h2 h3; simp only [List.forall_mem_cons, List.not_mem_nil, false_implies, implies_true, and_true, ne_eq] at h2; simp only [List.contains_cons, List.contains_nil, Bool.or_false, beq_eq_false_iff_ne, ne_eq] at h3; simp [kstB, h1, h2, h3])
    · rw [List.foldl_append, ← hG]; rfl
    · simp [hlen]
end SC6
section SC8
local macro_rules | `(tactic| walk_at "zz0") => `(tactic| skip)
theorem nilC8 : True := by
  k_with_none
  w_top off
  trivial
section D
local macro_rules | `(tactic| walk_at "setItem ref int") => `(tactic| (k_dflt (first | k_extra "SET" | refine Stop.go ?_)))
local macro_rules | `(tactic| walk_at "subscriptTail Name Name ref int") => `(tactic| (k_dflt (first | k_extra "SUBI" | refine Stop.go ?_)))
theorem ints_set {us : List Value} {ys : List Int} (h : IntsAre us ys) (k : Nat) (n : Int) (t : Tok) : IntsAre (us.set k (.int n t)) (ys.set k n) := by
  induction h generalizing k with
  | nil => exact .nil
  | cons y u r ih =>
    cases k with
    | zero => exact .cons n t r
    | succ k => exact .cons y u (ih k)
theorem ints_len {us : List Value} {ys : List Int} (h : IntsAre us ys) : us.length = ys.length := by
  induction h with
  | nil => rfl
  | cons _ _ _ ih => simp [ih]
theorem setL_some {us : List Value} {k : Nat} (v : Value) (h : k < us.length) : ki_setL us k v = some (us.set k v) := by
  induction us generalizing k with
  | nil => cases h
  | cons a r ih =>
    cases k with
    | zero => rfl
    | succ k => simp only [ki_setL, ih (Nat.lt_of_succ_lt_succ h)]; rfl
noncomputable def drawnAt (ns : List Int) (i : Nat) : List Int := (ns.take i).map (fun x => Int.fmod x 1000000) ++ ([4, 2, 6, 0] : List Int).drop i
noncomputable def drawnP (ns : List Int) : List Int := drawnAt ns (min ns.length 4)
theorem drawn_set {ns : List Int} {i : Nat} (h1 : i < ns.length) (h2 : i < 4) : (drawnAt ns i).set i (Int.fmod (ns.getD i 0) 1000000) = drawnAt ns (i + 1) := by
  unfold drawnAt
  have hl : ((ns.take i).map (fun x => Int.fmod x 1000000)).length = i := by rw [List.length_map, List.length_take]; omega
  rw [List.set_append_right _ _ (by omega), hl, Nat.sub_self, List.take_add_one, List.map_append, List.append_assoc]
  congr 1
  have e : ns[i]? = some (ns.getD i 0) := by rw [List.getD_eq_getElem?_getD, List.getElem?_eq_getElem h1]; rfl
  rw [e]
  match i, h2 with
  | 0, _ => rfl
  | 1, _ => rfl
  | 2, _ => rfl
  | 3, _ => rfl
theorem drawn_spec (l : Addr) (vs : List Value) (ns : List Int) (hz : ns.length < 100000) : Spec 94 [.ref l] 3 80 (fun h => h.IsList l vs.toArray ∧ IntsAre vs ns)
    (fun h h' v => ∃ a us n, v = .ref a ∧ h.get? a = none ∧ h'.get? a = some (listOf us.toArray n) ∧ IntsAre us (drawnP ns)) := by
  intro w mean mg mb dp un gd cn cs a ccd cl outer A₀ base h₀ L m s Q E B F X T hk hd hu hp hret
  k_dflt (refine' enter [(Str.ofString "script", .ref l)] B F X T rfl rfl hk ?k6 ?k7 ?k8 ?k9 ?kB ?_ ?c2 ?c3 ?c4 ?c5; (case k6 => k_is); (case k7 => k_is); (case k8 => ktr_room); (case k9 => exact BindsTo.of_eq rfl); (case c5 => decide); (case kB => exact locs rfl); (case c2 => exact rfl); (case c3 => exact rfl); (case c4 => exact rfl); k_whole; intro g L' h' tk' eg F' N' B' X' T'; (try dsimp only))
  (try rw [← eg] at hp); rw [← eg] at hret
  clear B F X T eg
  (try k_unmd)
  k_fold
  obtain ⟨hl, hi⟩ := hp
  k_with "LOOP" => ((rename Fr _ _ _ _ => lF); (rename News _ _ _ _ => lN); (rename IsRange _ _ _ _ _ _ _ _ => lR); refine' kst_range (n := min ns.length 4) (fun c : List Value × List Int => [(_, listOf c.1.toArray 0)]) (fun _ => []) (fun _ => True) [] (fun pre c => IntsAre c.1 c.2 ∧ c.2 = drawnAt ns pre.length) (_, [4, 2, 6, 0]) (by rfl) lR ?sm ?rs lF lN trivial ?kk ⟨?i0, rfl⟩ ?turn ?done; (case i0 => exact .cons _ _ (.cons _ _ (.cons _ _ (.cons _ _ .nil)))); (case kk => (intro p hp; cases hp)); (case sm => (exact small_one (by decide) (by decide) (by split <;> omega) (by split <;> omega))); (case rs => (rw [rangeSize_nat]; congr 1; split <;> omega)); (case' turn => (rintro ⟨us, ys⟩ pre k t u h tk own hk9 hlt9 ho hf9 ⟨hI9, hys9⟩ F N; subst hk9; dsimp only at hI9 hys9 F N; subst hys9; (try k_unmd); (try k_fold))); (case' done => (rintro ⟨us, ys⟩ u h tk hf9 ⟨hI9, hys9⟩ F N; dsimp only at hI9 hys9 F N; subst hys9; (try k_unmd); (try k_fold))))
  k_with "SUBI" => (refine item_list_ints (by is_list) hi (by omega) (by omega) (by omega) ?_; intro t9)
  k_with "SET" => (refine' ki_set ?F9 ?N9 ?a9 ?b9 (setL_some _ ?e9) ?U9 ?_; (case F9 => assumption); (case N9 => assumption); (case U9 => k_upd); (case a9 => omega); (case b9 => omega); (case e9 => (have e8 := ints_len hI9; simp only [drawnAt, List.length_append, List.length_map, List.length_take, List.length_drop, List.length_cons, List.length_nil] at e8; (try simp only [List.toList_toArray]); omega)); intro h9 F9 N9)
  k_steps
  k_with_none
  · (try dsimp only)
    exact Back.ret (by assumption) fun st => hret _ _ _ st ⟨_, _, 0, rfl, News.fresh (h₀ := g) (by assumption) List.mem_cons_self, News.get (by assumption) List.mem_cons_self, by rw [rangeKs_length] at hI9; exact hI9⟩
  · refine' kst_end ((us.set (0 + (pre.length : Int)).toNat (.int (Int.fmod (ns.getD (0 + (pre.length : Int)).toNat 0) 1000000) _), drawnAt ns (pre.length + 1)) : List Value × List Int) (by assumption) (by assumption) ?c1 ?c2 rfl trivial ?c3 ?c4 ⟨?c5, ?c6⟩
    case c1 => kst_in
    case c2 => (intro p hp; kst_mem)
    case c3 => (intro p hp; cases hp)
    case c4 => (intro z h1 h2 h3; simp [kstB, h1])
    case c5 =>
      have hk9 : (0 + (pre.length : Int)).toNat = pre.length := by omega
      (try dsimp only)
      rw [hk9, ← drawn_set (by omega) (by omega)]
      exact ints_set hI9 _ _ _
    case c6 => (dsimp only; rw [List.length_append]; rfl)
end D
end SC8
section SC7
local macro_rules | `(tactic| walk_at "zz0") => `(tactic| skip)
local macro_rules | `(tactic| walk_at "zz1") => `(tactic| skip)
local macro_rules | `(tactic| walk_at "zz2") => `(tactic| skip)
local macro_rules | `(tactic| walk_at "zz3") => `(tactic| skip)
theorem nilC7 : True := by
  k_with_none
  w_top off
  trivial
local macro_rules | `(tactic| walk_at "execs cons") => `(tactic| (k_here; (try dsimp only); first | ((with_reducible show wpAny _ _ _ _ _ (Shared.mk _ _ _ (_ + 1) _)); refine gen_toks ?_; intro t9; dsimp only) | (k_made; walk_at "execs cons") | (refine seq_gen ?_; intro R9 K9)))
local macro_rules | `(tactic| walk_at "KNext next") => `(tactic| (refine seq_on (by assumption) ?_))
local macro_rules | `(tactic| walk_at "KNext") => `(tactic| (refine seq_off (by assumption) rfl ?_; (try dsimp only)))
section
variable {prog : Program} {w : World} {A : Around} {E : Value → Shared → Prop} {s : Shared} {env : Env} {h₀ : Heap} {x : Str} {body : List Stmt} {Q : Flow → Shared → Prop}
noncomputable def KstV {σ : Type} (ps : σ → List (Str × Value)) (x : Str) (stored : List Str) (m₀ : Str → Option Value) (P : List Value → σ → Prop) (pre : List Value) (m : Str → Option Value) : Prop :=
  ∃ c : σ, (∀ p ∈ ps c, m p.1 = some p.2) ∧ (∀ z, z ≠ x → (∀ p ∈ ps c, z ≠ p.1) → stored.contains z = false → m z = m₀ z) ∧ P pre c
/-- a loop over any made list; no object turns -/
theorem loop_vals {σ : Type} {l : Addr} {vs : List Value} {nn : Nat} {m₀ : Str → Option Value} {news : List (Addr × Obj)} (ps : σ → List (Str × Value)) (stored : List Str) (P : List Value → σ → Prop) (c₀ : σ)
    (hh : A.handled = none) (hl : (l, listOf vs.toArray nn) ∈ news) (F : Fr h₀ env.locals s.heap m₀) (N : News h₀ env.locals s.heap news) (hk : ∀ p ∈ ps c₀, m₀ p.1 = some p.2) (hp : P [] c₀)
    (turn : ∀ (c : σ) pre post v (u : Str → Option Value) h tk own, vs = pre ++ v :: post → OwnOff own (news.map (·.1)) → P pre c →
      Fr h₀ env.locals h (fun y => if y = x then some v else kstB (fun z => if stored.contains z then u z else m₀ z) (ps c) y) → News h₀ env.locals h (news ++ own) →
      wpAny (model prog w) A (execs body env) (InvPostG h₀ env.locals (fun m' nx => nx = news ∧ KstV ps x stored m₀ P (pre ++ [v]) m') own { s with heap := h, toks := tk } Q) E { s with heap := h, toks := tk })
    (done : ∀ (c : σ) (u : Str → Option Value) h tk, P vs c → Fr h₀ env.locals h (fun y => if y = x then u y else kstB (fun z => if stored.contains z then u z else m₀ z) (ps c) y) → News h₀ env.locals h news → Q .next { s with heap := h, toks := tk }) :
    wpAny (model prog w) A (pyIter (.ref l)) (fun it s₂ => LoopAtV prog w A h₀ env x body Q E it s₂) E s := by
  refine kdl_iter (fun i m nx => nx = news ∧ KstV ps x stored m₀ P (vs.take i) m) hh hl F N ⟨rfl, c₀, hk, fun _ _ _ _ => rfl, by simpa using hp⟩ ?_ ?_
  · rintro i v m₁ nx h tk own hn hoff _ ⟨rfl, c, h1, h2, hp'⟩ F₁ N₁
    have hs : vs.take (i + 1) = vs.take i ++ [v] := by simp [List.take_add_one, hn]
    have e : vs = vs.take i ++ v :: vs.drop (i + 1) := by
      have ht := List.take_append_drop (i + 1) vs
      rw [hs, List.append_assoc] at ht
      exact ht.symm
    refine wpAny_mono (turn c _ _ v m₁ h tk own e hoff hp' (kst_fr h1 h2 F₁) N₁) (fun f s₂ p => ?_) fun _ _ x => x
    have up : InvEndG h₀ env.locals (fun m' nx' => nx' = nx ∧ KstV ps x stored m₀ P (vs.take i ++ [v]) m') own { s with heap := h, toks := tk } s₂ →
        InvEndG h₀ env.locals (fun m' nx' => (l, listOf vs.toArray nn) ∈ nx' ∧ nx' = nx ∧ KstV ps x stored m₀ P (vs.take (i + 1)) m') own { s with heap := h, toks := tk } s₂ := by
      rintro ⟨h', tk', m', news', nx', e', F', N', hn', ho', ha, rfl, hS⟩
      exact ⟨h', tk', m', news', nx', e', F', N', hn', ho', ha, hl, rfl, hs ▸ hS⟩
    cases f with
    | ret v => exact p
    | brk => exact p
    | next => exact up p
    | cont => exact up p
  · rintro m₁ nx h tk ⟨rfl, c, h1, h2, hp'⟩ F₁ N₁
    rw [List.take_length] at hp'
    exact done c m₁ h tk hp' (kst_frOut h1 h2 F₁) N₁
theorem vals_end {σ : Type} {ps : σ → List (Str × Value)} {stored : List Str} {m₀ : Str → Option Value} {P : List Value → σ → Prop} {pre : List Value} {news : List (Addr × Obj)} (c : σ) {L : Addr} {m' : Str → Option Value} {own news' : List (Addr × Obj)} {s₁ : Shared} {h' : Heap} {tk : Nat}
    (F : Fr h₀ L h' m') (N : News h₀ L h' news') (hn : ∀ p ∈ news, p ∈ news') (ho : ∀ p ∈ own, p ∈ news') (ha : OwnOff own (news.map (·.1))) (hk : ∀ p ∈ ps c, m' p.1 = some p.2) (hr : ∀ z, z ≠ x → (∀ p ∈ ps c, z ≠ p.1) → stored.contains z = false → m' z = m₀ z) (hp : P pre c) :
    InvEndG h₀ L (fun m' nx => nx = news ∧ KstV ps x stored m₀ P pre m') own s₁ { s₁ with heap := h', toks := tk } :=
  InvEndG.intro F N ⟨rfl, c, hk, hr, hp⟩ ha hn ho
end
noncomputable def find4 (x y : Str) (i j : Int) : Int := match Builtin.Str.occurrences x y (fromIndex x.length i) (min (fromIndex x.length j) x.length) 1 with | k :: _ => (k : Int) | [] => -1
theorem gives_find4 (x y : Str) (i j : Int) (t u v v2 : Tok) : Gives (Builtin.«str.find» ⟨[.str x t, .str y u, .int i v, .int j v2], []⟩) (.int (find4 x y i j)) := by
  show Gives (match Builtin.Str.occurrences x y (fromIndex x.length i) (min (fromIndex x.length j) x.length) 1 with | k :: _ => retInt k | [] => (do rule "str.find.not-found"; retInt (-1))) _
  unfold find4
  cases Builtin.Str.occurrences x y (fromIndex x.length i) (min (fromIndex x.length j) x.length) 1 with
  | nil => exact .rule (.of_eq rfl)
  | cons k _ => exact .of_eq rfl
theorem call_find4 {prog : Program} {w : World} {A : Around} {E : Value → Shared → Prop} {s : Shared} {x y : Str} {t u v v2 : Tok} {i j : Int} {Q : Value → Shared → Prop} (hq : Q (.int (find4 x y i j) s.toks) { s with toks := s.toks + 1 }) :
    wpAny (model prog w) A (call (.builtin "str.find") [.str x t, .str y u, .int i v, .int j v2]) Q E s :=
  call_gives F.slot_str_find (typeIs_str _ _ _) F.entry_str_find (F.args_str_find_4 _ _ _ _) (gives_find4 x y i j t u v v2) hq
noncomputable abbrev MK : Str := Str.ofString "..."
@[irreducible] noncomputable def ellLoop (got : Str) (ep : Int) : List Str → Int → Bool
  | [], _ => true
  | w :: r, pos => if find4 got w pos ep < 0 then false else ellLoop got ep r (find4 got w pos ep + (w.length : Nat))
@[irreducible] noncomputable def ellTail (got : Str) (sp ep : Int) (ws : List Str) : Bool := if ep < sp then false else ellLoop got ep ws sp
@[irreducible] noncomputable def ellBack (got : Str) (sp : Int) (ws : List Str) : Bool := match ws.getLast? with
  | none => false
  | some w => if ((w.length : Nat) : Int) = 0 then ellTail got sp (got.length : Nat) ws else if Txt.endswith got w then ellTail got sp ((got.length : Nat) - (w.length : Nat)) ws.dropLast else false
noncomputable def ellP (want got : Str) : Option Bool :=
  if (Builtin.Str.occurrences want (Str.ofString "...") 0 want.length 1).isEmpty = true then some (want == got)
  else match Txt.split want (Str.ofString "...") with
    | p0 :: p1 :: r => if 100 < r.length then none else some (if ((p0.length : Nat) : Int) = 0 then ellBack got 0 (p0 :: p1 :: r) else if Txt.startswith got p0 then ellBack got (p0.length : Nat) (p1 :: r) else false)
    | _ => none
theorem strs_last {vs : List Value} {ps : List Str} {w : Str} (h : StrsAre vs ps) (e : ps.getLast? = some w) : ∃ t, vs.getLast? = some (.str w t) := by
  induction h with
  | nil => cases e
  | cons y t r ih =>
    cases r with
    | nil => cases e; exact ⟨t, rfl⟩
    | cons y2 t2 r2 =>
      rw [List.getLast?_cons_cons] at e
      obtain ⟨t', h'⟩ := ih e
      exact ⟨t', by rw [List.getLast?_cons_cons]; exact h'⟩
theorem item_last {prog : Program} {w : World} {A : Around} {E : Value → Shared → Prop} {s : Shared} {value slice : Expr} {a : Addr} {vs : List Value} {ps : List Str} {p : Str} {u : Tok} {Q : Value → Shared → Prop} (hl : s.heap.IsList a vs.toArray) (hS : StrsAre vs ps) (e : ps.getLast? = some p) (hz : vs.length < 100000)
    (h : ∀ t, Q (.str p t) s)
    (hs : subscripted slice false (.ref a) (.int (-1) u) = operate [.ref a, .int (-1) u] (getItem (.ref a) (.int (-1) u)) := by with_unfolding_all rfl) (hg : ∀ r, letTemporaryGo value (.ref a) r = pure () := by intro _; with_unfolding_all rfl) :
    wpAny (model prog w) A (subscriptTail value slice (.ref a) (.int (-1) u)) Q E s := by
  obtain ⟨t, hx⟩ := strs_last hS e
  have hne : 0 < vs.length := by cases vs with | nil => cases hx | cons _ _ => simp
  refine subscriptTail_builtin hl.typeIs slot_list_getitem.lookup (wpAny_getItem_list_neg hl (by decide) (by simp only [List.size_toArray]; omega) (by decide) (x := .str p t) ?_ (h t)) hs hg
  rw [List.getLast?_eq_getElem?] at hx
  simp only [List.size_toArray, List.getElem?_toArray]
  rw [show ((-1 : Int) + (vs.length : Int)).toNat = vs.length - 1 by omega]
  exact hx
theorem strs_drop {vs : List Value} {ps : List Str} (h : StrsAre vs ps) : StrsAre (vs.eraseIdx (vs.length - 1)) ps.dropLast := by
  induction h with
  | nil => exact .nil
  | cons y t r ih =>
    cases r with
    | nil => exact .nil
    | cons y2 t2 r2 => exact .cons y t ih
theorem strs_len {vs : List Value} {ps : List Str} (h : StrsAre vs ps) : vs.length = ps.length := by
  induction h with
  | nil => rfl
  | cons _ _ _ ih => simp [ih]
theorem strs_head {v : Value} {vs : List Value} {ps : List Str} (h : StrsAre (v :: vs) ps) : ∃ y t r, v = .str y t ∧ ps = y :: r ∧ StrsAre vs r := by
  cases h with
  | cons y t r => exact ⟨y, t, _, rfl, rfl, r⟩
theorem strs_two {vs : List Value} {p0 p1 : Str} {r : List Str} (h : StrsAre vs (p0 :: p1 :: r)) : ∃ t0 t1 vr, vs = .str p0 t0 :: .str p1 t1 :: vr ∧ StrsAre vr r := by
  cases h with
  | cons _ t0 h => cases h with
    | cons _ t1 h => exact ⟨t0, t1, _, rfl, h⟩
theorem last_some (p : Str) : ∀ r : List Str, ∃ w, (p :: r).getLast? = some w
  | [] => ⟨p, rfl⟩
  | a :: r => by rw [List.getLast?_cons_cons]; exact last_some a r
local macro_rules | `(tactic| walk_at "call builtin:str.find") => `(tactic| (k_dflt (refine call_find4 ?_)))
local macro_rules | `(tactic| walk_at "call builtin:str.split") => `(tactic| (k_dflt (first | k_extra "SPLIT" | refine Stop.go ?_)))
local macro_rules | `(tactic| walk_at "subscriptTail Name UnaryOp ref int") => `(tactic| (k_dflt (first | k_extra "SUBN" | refine Stop.go ?_)))
local macro_rules | `(tactic| walk_at "delItem ref int") => `(tactic| (k_dflt (first | k_extra "DEL" | refine Stop.go ?_)))
local macro_rules | `(tactic| walk_at "call builtin:len") => `(tactic| ((with_reducible show wpAny _ _ (call (Value.builtin "len") [Value.str _ _]) _ _ _); k_dflt (k_extra "LEN")))
local macro_rules | `(tactic| walk_at "call builtin:len") => `(tactic| ((with_reducible show wpAny _ _ (call (Value.builtin "len") [Value.ref _]) _ _ _); k_dflt (first | k_extra "LENL" | refine Stop.go ?_)))
theorem del_first {prog : Program} {w : World} {A : Around} {E : Value → Shared → Prop} {s : Shared} {h₀ : Heap} {L D : Addr} {m : Str → Option Value} {v : Value} {vs : List Value} {n : Nat} {u : Tok} {p₁ : Addr × Obj} {rest : List (Addr × Obj)} {Q : Unit → Shared → Prop}
    (F : Fr h₀ L s.heap m) (N : News h₀ L s.heap (p₁ :: (D, listOf (v :: vs).toArray n) :: rest)) (h1 : p₁.1 ≠ D) (hap : ∀ p ∈ rest, p.1 ≠ D) (hz : vs.length < 100000)
    (h : ∀ h', Fr h₀ L h' m → News h₀ L h' (p₁ :: (D, listOf vs.toArray (n + 1)) :: rest) → Q () { s with heap := h' }) :
    wpAny (model prog w) A (delItem (.ref D) (.int 0 u)) Q E s :=
  delItem_second (k := 0) F N h1 hap (by decide) (StrLaws.seqIndex_nonneg (by decide) (by simp)) (fun h' F' N' => h h' F' N') (by rw [PySem.sizeLine_eq]; simp only [List.size_toArray, List.length_cons]; omega)
theorem del_last {prog : Program} {w : World} {A : Around} {E : Value → Shared → Prop} {s : Shared} {h₀ : Heap} {L D : Addr} {m : Str → Option Value} {vs : List Value} {ps : List Str} {n : Nat} {u : Tok} {p₁ : Addr × Obj} {rest : List (Addr × Obj)} {Q : Unit → Shared → Prop}
    (F : Fr h₀ L s.heap m) (N : News h₀ L s.heap (p₁ :: (D, listOf vs.toArray n) :: rest)) (h1 : p₁.1 ≠ D) (hap : ∀ p ∈ rest, p.1 ≠ D) (hS : StrsAre vs ps) (hne : 0 < vs.length) (hz : vs.length < 100000)
    (h : ∀ h' us, Fr h₀ L h' m → News h₀ L h' (p₁ :: (D, listOf (List.toArray us) (n + 1)) :: rest) → StrsAre us ps.dropLast → Q () { s with heap := h' }) :
    wpAny (model prog w) A (delItem (.ref D) (.int (-1) u)) Q E s :=
  delItem_second (k := vs.length - 1) F N h1 hap (by decide) (by rw [StrLaws.seqIndex_neg (by decide) (by simp only [List.size_toArray]; omega)]; congr 1; simp only [List.size_toArray]; omega) (fun h' F' N' => h h' _ F' N' (strs_drop hS)) (by rw [PySem.sizeLine_eq]; simp only [List.size_toArray]; omega)
theorem len_at {prog : Program} {w : World} {A : Around} {E : Value → Shared → Prop} {s : Shared} {l : Addr} {us : List Value} {k : Nat} {Q : Value → Shared → Prop} (hl : s.heap.IsList l us.toArray) (e : us.length = k) (hfit : (k : Int) < 2 ^ 63)
    (h : Q (.int (k : Int) (s.toks + 1)) { s with toks := s.toks + 1 + 1 }) : wpAny (model prog w) A (call (.builtin "len") [.ref l]) Q E s := by
  have e2 : us.toArray.size = k := by rw [List.size_toArray, e]
  exact len_list hl (by rw [e2]; exact hfit) (by rw [e2]; exact h)
theorem front1 {y p0 p1 : Str} {r : List Str} {b : Bool} (h0 : ((p0.length : Nat) : Int) = 0) (hE : (if ((p0.length : Nat) : Int) = 0 then ellBack y 0 (p0 :: p1 :: r) else if Txt.startswith y p0 = true then ellBack y (p0.length : Nat) (p1 :: r) else false) = b) : ellBack y 0 (p0 :: p1 :: r) = b := by
  rw [if_pos h0] at hE; exact hE
theorem front2 {y p0 p1 : Str} {r : List Str} {b : Bool} (h0 : ((p0.length : Nat) : Int) ≠ 0) (h1 : Txt.startswith y p0 = true) (hE : (if ((p0.length : Nat) : Int) = 0 then ellBack y 0 (p0 :: p1 :: r) else if Txt.startswith y p0 = true then ellBack y (p0.length : Nat) (p1 :: r) else false) = b) : ellBack y (p0.length : Nat) (p1 :: r) = b := by
  rw [if_neg h0, if_pos h1] at hE; exact hE
theorem front3 {y p0 p1 : Str} {r : List Str} {b : Bool} (h0 : ((p0.length : Nat) : Int) ≠ 0) (h1 : Txt.startswith y p0 = false) (hE : (if ((p0.length : Nat) : Int) = 0 then ellBack y 0 (p0 :: p1 :: r) else if Txt.startswith y p0 = true then ellBack y (p0.length : Nat) (p1 :: r) else false) = b) : false = b := by
  rw [if_neg h0, h1] at hE; exact hE
theorem back0 {y wl : Str} {sp : Int} {ws : List Str} {b : Bool} (hw : ws.getLast? = some wl) (h0 : ((wl.length : Nat) : Int) = 0) (h : ellBack y sp ws = b) : ellTail y sp (y.length : Nat) ws = b := by
  unfold ellBack at h; rw [hw] at h; dsimp only at h; rw [if_pos h0] at h; exact h
theorem back1 {y wl : Str} {sp : Int} {ws : List Str} {b : Bool} (hw : ws.getLast? = some wl) (h0 : ((wl.length : Nat) : Int) ≠ 0) (h1 : Txt.endswith y wl = true) (h : ellBack y sp ws = b) : ellTail y sp ((y.length : Nat) - (wl.length : Nat)) ws.dropLast = b := by
  unfold ellBack at h; rw [hw] at h; dsimp only at h; rw [if_neg h0, if_pos h1] at h; exact h
theorem back2 {y wl : Str} {sp : Int} {ws : List Str} {b : Bool} (hw : ws.getLast? = some wl) (h0 : ((wl.length : Nat) : Int) ≠ 0) (h1 : Txt.endswith y wl = false) (h : ellBack y sp ws = b) : false = b := by
  unfold ellBack at h; rw [hw] at h; dsimp only at h; rw [if_neg h0, h1] at h; exact h
theorem tail0 {y : Str} {sp ep : Int} {ws : List Str} {b : Bool} (h1 : ep < sp) (h : ellTail y sp ep ws = b) : false = b := by
  unfold ellTail at h; rw [if_pos h1] at h; exact h
theorem tail1 {y : Str} {sp ep : Int} {ws : List Str} {b : Bool} (h1 : ¬ ep < sp) (h : ellTail y sp ep ws = b) : ellLoop y ep ws sp = b := by
  unfold ellTail at h; rw [if_neg h1] at h; exact h
theorem tail1z {y : Str} {ep : Int} {ws : List Str} {b : Bool} (h1 : 0 ≤ ep) (h : ellTail y 0 ep ws = b) : ellLoop y ep ws 0 = b := tail1 (by omega) h
noncomputable def EP (y : Str) (ep : Int) (b : Bool) (vs pre : List Value) (c : Int × Tok) : Prop := ∃ post r', vs = pre ++ post ∧ StrsAre post r' ∧ (∀ w ∈ r', w.length < 100000) ∧ ellLoop y ep r' c.1 = b
theorem EP.start {y : Str} {ep sp : Int} {b : Bool} {vs : List Value} {ws : List Str} (hS : StrsAre vs ws) (hl : ∀ w ∈ ws, w.length < 100000) (hD : ellLoop y ep ws sp = b) (t : Tok) : EP y ep b vs [] (sp, t) := ⟨vs, ws, rfl, hS, hl, hD⟩
theorem loop_ell {prog : Program} {w : World} {A : Around} {E : Value → Shared → Prop} {s : Shared} {env : Env} {h₀ : Heap} {body : List Stmt} {Q : Flow → Shared → Prop} {y : Str} {ep : Int} {b : Bool} {l : Addr} {vs : List Value} {nn : Nat} {m₀ : Str → Option Value} {news : List (Addr × Obj)} {sp : Int} {t : Tok}
    (hh : A.handled = none) (hP : EP y ep b vs [] (sp, t)) (hl : (l, listOf vs.toArray nn) ∈ news) (F : Fr h₀ env.locals s.heap m₀) (N : News h₀ env.locals s.heap news) (hk : m₀ (Str.ofString "startpos") = some (.int sp t))
    (turn : ∀ (c : Int) tc pre post yw tw r2 (u : Str → Option Value) h tk own, OwnOff own (news.map (·.1)) → vs = pre ++ .str yw tw :: post → StrsAre post r2 → (∀ w ∈ r2, w.length < 100000) → yw.length < 100000 → ellLoop y ep (yw :: r2) c = b →
      Fr h₀ env.locals h (fun z => if z = Str.ofString "w" then some (.str yw tw) else if z = Str.ofString "startpos" then some (.int c tc) else m₀ z) → News h₀ env.locals h (news ++ own) →
      wpAny (model prog w) A (execs body env) (InvPostG h₀ env.locals (fun m' nx => nx = news ∧ KstV (fun c : Int × Tok => [(Str.ofString "startpos", .int c.1 c.2)]) (Str.ofString "w") [] m₀ (EP y ep b vs) (pre ++ [.str yw tw]) m') own { s with heap := h, toks := tk } Q) E { s with heap := h, toks := tk })
    (done : true = b → ∀ (c : Int) tc (u : Str → Option Value) h tk, Fr h₀ env.locals h (fun z => if z = Str.ofString "w" then u z else if z = Str.ofString "startpos" then some (.int c tc) else m₀ z) → News h₀ env.locals h news → Q .next { s with heap := h, toks := tk }) :
    wpAny (model prog w) A (pyIter (.ref l)) (fun it s₂ => LoopAtV prog w A h₀ env (Str.ofString "w") body Q E it s₂) E s := by
  refine loop_vals (fun c : Int × Tok => [(Str.ofString "startpos", .int c.1 c.2)]) [] (EP y ep b vs) (sp, t) hh hl F N ?_ hP ?_ ?_
  · intro p hp
    cases List.mem_singleton.1 hp
    exact hk
  · rintro ⟨c, tc⟩ pre post v u h tk own e ho ⟨post', r', e', hS', hl', hD'⟩ F N
    have e9 := List.append_cancel_left (e'.symm.trans e)
    subst e9
    obtain ⟨yw, tw, r2, hv, hr, hS2⟩ := strs_head hS'
    subst hv
    subst hr
    exact turn c tc pre post yw tw r2 u h tk own ho e hS2 (fun w hw => hl' w (List.mem_cons_of_mem _ hw)) (hl' yw List.mem_cons_self) hD' F N
  · rintro ⟨c, tc⟩ u h tk ⟨post', r', e', hS', hl', hD'⟩ F N
    have e9 : post' = [] := List.append_cancel_left (e'.symm.trans (List.append_nil vs).symm)
    subst e9
    cases hS'
    exact done (by unfold ellLoop at hD'; exact hD') c tc u h tk F N
theorem EP.next {y : Str} {ep c : Int} {tc : Tok} {b : Bool} {vs pre post : List Value} {yw : Str} {tw : Tok} {r2 : List Str} (e : vs = pre ++ .str yw tw :: post) (hS : StrsAre post r2) (hl : ∀ w ∈ r2, w.length < 100000) (hD : ellLoop y ep r2 c = b) : EP y ep b vs (pre ++ [.str yw tw]) (c, tc) :=
  ⟨post, r2, by rw [e, List.append_assoc]; rfl, hS, hl, hD⟩
theorem loop0 {y yw : Str} {ep c : Int} {r : List Str} {b : Bool} (h1 : find4 y yw c ep < 0) (h : ellLoop y ep (yw :: r) c = b) : false = b := by
  unfold ellLoop at h; rw [if_pos h1] at h; exact h
theorem loop1 {y yw : Str} {ep c : Int} {r : List Str} {b : Bool} (h1 : ¬ find4 y yw c ep < 0) (h : ellLoop y ep (yw :: r) c = b) : ellLoop y ep r (find4 y yw c ep + (yw.length : Nat)) = b := by
  unfold ellLoop at h; rw [if_neg h1] at h; exact h
theorem ell_spec (x y : Str) (tx ty : Tok) (b : Bool) (hx : x.length < 100000) (hy : y.length < 100000) (hE : ellP x y = some b) : Spec 28 [.str x tx, .str y ty] 2 80 (fun h => True) (fun _ _ v => v = .bool b) := by
  intro w mean mg mb dp un gd cn cs a ccd cl outer A₀ base h₀ L m s Q E B F X T hk hd hu hp hret
  k_dflt (refine' enter [(Str.ofString "want", .str x tx), (Str.ofString "got", .str y ty)] B F X T rfl rfl hk ?k6 ?k7 ?k8 ?k9 ?kB ?_ ?c2 ?c3 ?c4 ?c5; (case k6 => k_is); (case k7 => k_is); (case k8 => ktr_room); (case k9 => exact BindsTo.of_eq rfl); (case c5 => decide); (case kB => exact locs rfl); (case c2 => exact rfl); (case c3 => exact rfl); (case c4 => exact rfl); k_whole; intro g L' h' tk' eg F' N' B' X' T'; (try dsimp only))
  (try rw [← eg] at hp); rw [← eg] at hret
  clear B F X T eg
  (try k_unmd)
  k_fold
  k_with "LEN" => (refine SBL.len (by omega) ?_)
  unfold ellP at hE
  cases hc : (Builtin.Str.occurrences x (Str.ofString "...") 0 x.length 1).isEmpty with
  | true =>
    rw [if_pos hc] at hE
    k_steps
    (try dsimp only)
    exact Back.ret F' fun st => hret _ _ _ st (congrArg Value.bool (Option.some.inj hE))
  | false =>
    rw [if_neg (by rw [hc]; decide)] at hE
    split at hE
    · rename_i p0 p1 r hsp
      by_cases hrl : 100 < r.length
      · rw [if_pos hrl] at hE; cases hE
      rw [if_neg hrl] at hE
      have hE := Option.some.inj hE
      obtain ⟨wl, hwl⟩ := last_some p1 r
      have hlA0 : ∀ w ∈ p0 :: p1 :: r, w.length ≤ x.length := fun w h => part_short (hsp ▸ h)
      have hlA : ∀ w ∈ p0 :: p1 :: r, w.length < 100000 := fun w h => Nat.lt_of_le_of_lt (hlA0 w h) hx
      have hlB : ∀ w ∈ p1 :: r, w.length < 100000 := fun w h => hlA w (List.mem_cons_of_mem _ h)
      have hlD : ∀ w ∈ (p0 :: p1 :: r).dropLast, w.length < 100000 := fun w h => hlA w (List.dropLast_subset _ h)
      have hlE : ∀ w ∈ (p1 :: r).dropLast, w.length < 100000 := fun w h => hlB w (List.dropLast_subset _ h)
      k_with "SPLIT" => ((rename Fr _ _ _ _ => lF); (rename News _ _ _ _ => lN); refine splitN1A lF lN (by decide +kernel) ?_ (by rw [PySem.sizeLine_eq]; omega); intro l9 h9 k9 e9 hS9 hle9 hIL9 F9 N9; (rw [e9, hsp] at hS9 hle9); generalize strValues l9 = vs9 at hS9 hIL9 N9; obtain ⟨t0, t1, vr9, hv9, hT9⟩ := strs_two hS9; subst hv9; have hl0 := hle9 p0 List.mem_cons_self; have hl1 := hle9 p1 (List.mem_cons_of_mem _ List.mem_cons_self); have hlw := hle9 wl (List.mem_cons_of_mem _ (List.mem_of_getLast? hwl)); have hn9 := strs_len hT9; (try k_unmd); (try k_fold))
      k_with "TRUTHY" => (refine SBL.truthy (by omega) ?_)
      k_with "LENL" => (refine len_at (k := vr9.length + 2) (by is_list) rfl (by omega) ?_)
      k_with "SUB" => (refine item_listL (by is_list) (by decide) (by decide) (by rfl) ?_)
      k_with "SUBN" => first | (refine item_last (by is_list) (.cons _ _ (.cons _ _ hT9)) (by rw [List.getLast?_cons_cons]; exact hwl) (by simp only [List.length_cons]; omega) ?_; intro t9) | (refine item_last (by is_list) (.cons _ _ hT9) hwl (by simp only [List.length_cons]; omega) ?_; intro t9)
      k_with "DEL" => ((rename Fr _ _ _ _ => lF); (rename News _ _ _ _ => lN); first
        | ((with_reducible show wpAny _ _ (delItem (Value.ref _) (Value.int 0 _)) _ _ _); (refine' del_first (v := .str p0 t0) (vs := .str p1 t1 :: vr9) (n := 0) lF lN ?d11 ?d12 ?d13 ?d14); (case d11 => k_ne); (case d12 => (intro p hp; cases hp)); (case d13 => (simp only [List.length_cons]; omega)); intro h9 F9 N9; clear lF lN; (try k_unmd); (try k_fold))
        | ((refine' del_last (vs := .str p0 t0 :: .str p1 t1 :: vr9) (n := 0) lF lN ?d21 ?d22 (.cons _ _ (.cons _ _ hT9)) ?d25 ?d23 ?d24); (case d21 => k_ne); (case d22 => (intro p hp; cases hp)); (case d25 => (simp only [List.length_cons]; omega)); (case d23 => (simp only [List.length_cons]; omega)); intro h9 us9 F9 N9 hU9; clear lF lN; (try k_unmd); (try k_fold))
        | ((refine' del_last (vs := .str p1 t1 :: vr9) (n := 0 + 1) lF lN ?d31 ?d32 (.cons _ _ hT9) ?d35 ?d33 ?d34); (case d31 => k_ne); (case d32 => (intro p hp; cases hp)); (case d35 => (simp only [List.length_cons]; omega)); (case d33 => (simp only [List.length_cons]; omega)); intro h9 us9 F9 N9 hU9; clear lF lN; (try k_unmd); (try k_fold)))
      k_with "LOOP" => ((rename Fr _ _ _ _ => lF); (rename News _ _ _ _ => lN); (first | have hB9 := front1 (by assumption) hE | have hB9 := front2 (by assumption) (by assumption) hE); (first | have hC9 := back0 (by first | exact hwl | (rw [List.getLast?_cons_cons]; exact hwl)) (by assumption) hB9 | have hC9 := back1 (by first | exact hwl | (rw [List.getLast?_cons_cons]; exact hwl)) (by assumption) (by assumption) hB9); (first | have hD9 := tail1 (by assumption) hC9 | have hD9 := tail1z (by omega) hC9); (first | have hP9 := EP.start hU9 hlD hD9 | have hP9 := EP.start hU9 hlE hD9 | have hP9 := EP.start (.cons p1 t1 hT9) hlB hD9 | have hP9 := EP.start (.cons p0 t0 (.cons p1 t1 hT9)) hlA hD9); (refine loop_ell rfl (hP9 _) (List.Mem.tail _ (List.Mem.head _)) lF lN rfl ?_ ?_); (intro c tc pre post yw tw r2 u h tk own ho e9 hS9 hr9 hy9 hL9 F9 N9; dsimp only at F9 N9; (try k_unmd); (try k_fold)); (rotate_left 1); (intro hb9 c tc u h tk F9 N9; dsimp only at F9 N9; (try k_unmd); (try k_fold)); (rotate_right 1))
      k_steps
      k_with_none
      all_goals (try dsimp only)
      all_goals first
        | ((with_reducible show InvEndG _ _ _ _ _ _); exact vals_end (_, _) (by assumption) (by assumption) (by kst_in) (by intro p hp; kst_mem) ho (by kst_all) (by intro z h1 h2 h3; simp only [List.forall_mem_cons, List.not_mem_nil, false_implies, implies_true, and_true, ne_eq] at h2; simp [h1, h2]) (EP.next e9 hS9 hr9 (loop1 (by assumption) hL9)))
        | exact Back.ret (by assumption) fun st => hret _ _ _ st (congrArg Value.bool (hb9))
        | exact Back.ret (by assumption) fun st => hret _ _ _ st (congrArg Value.bool (loop0 (by assumption) hL9))
        | exact Back.ret (by assumption) fun st => hret _ _ _ st (congrArg Value.bool (front3 (by assumption) (by assumption) hE))
        | exact Back.ret (by assumption) fun st => hret _ _ _ st (congrArg Value.bool (back2 (by first | exact hwl | (rw [List.getLast?_cons_cons]; exact hwl)) (by assumption) (by assumption) (front1 (by assumption) hE)))
        | exact Back.ret (by assumption) fun st => hret _ _ _ st (congrArg Value.bool (back2 (by first | exact hwl | (rw [List.getLast?_cons_cons]; exact hwl)) (by assumption) (by assumption) (front2 (by assumption) (by assumption) hE)))
        | exact Back.ret (by assumption) fun st => hret _ _ _ st (congrArg Value.bool (tail0 (by assumption) (back0 (by first | exact hwl | (rw [List.getLast?_cons_cons]; exact hwl)) (by assumption) (front1 (by assumption) hE))))
        | exact Back.ret (by assumption) fun st => hret _ _ _ st (congrArg Value.bool (tail0 (by assumption) (back1 (by first | exact hwl | (rw [List.getLast?_cons_cons]; exact hwl)) (by assumption) (by assumption) (front1 (by assumption) hE))))
        | exact Back.ret (by assumption) fun st => hret _ _ _ st (congrArg Value.bool (tail0 (by assumption) (back0 (by first | exact hwl | (rw [List.getLast?_cons_cons]; exact hwl)) (by assumption) (front2 (by assumption) (by assumption) hE))))
        | exact Back.ret (by assumption) fun st => hret _ _ _ st (congrArg Value.bool (tail0 (by assumption) (back1 (by first | exact hwl | (rw [List.getLast?_cons_cons]; exact hwl)) (by assumption) (by assumption) (front2 (by assumption) (by assumption) hE))))
    · cases hE
end SC7
section SC9a
section
variable {prog : Program} {w : World} {A : Around} {E : Value → Shared → Prop} {s : Shared} {env : Env} {h₀ : Heap} {x : Str} {px : Pos} {body : List Stmt} {Q : Flow → Shared → Prop}
/-- the end of a turn of a loop whose target is any name -/
noncomputable def TEnd (h₀ : Heap) (L : Addr) (J : (Str → Option Value) → List (Addr × Obj) → Prop) (own : List (Addr × Obj)) (s₁ : Shared) (f : Flow) (s₂ : Shared) : Prop := f = .next ∧ InvEndG h₀ L J own s₁ s₂
theorem tend_step {L I : Addr} {oI : Obj} {fp own : List (Addr × Obj)} {J : (Str → Option Value) → List (Addr × Obj) → Prop} {s₁ s₂ : Shared} {f : Flow} (hI : (I, oI) ∈ fp) (hs : ∀ p ∈ own, p ∈ fp ∨ h₀.get? p.1 ≠ none) (N₁ : News h₀ L s₁.heap own)
    (h : TEnd h₀ L J fp s₁ f s₂) : LoopStepU h₀ L [I] own J s₁ f s₂ := by
  obtain ⟨rfl, h', tk, m', news', nx, e, F', N', hn, ho, ha, hm⟩ := h
  refine ⟨rfl, h', tk, m', nx, e, F', fun p hp => ?_, fun p hp hq => ?_, hm⟩
  · rcases List.mem_append.mp hp with h | h
    · rcases hs p h with h1 | h1
      · exact N' p (ho p h1)
      · exact absurd (N₁ p h).2.2 h1
    · exact N' p (hn p h)
  · exact ha _ hI p.1 (List.mem_map.mpr ⟨p, hp, rfl⟩) (List.mem_singleton.mp hq).symm
theorem iterT_list {l : Addr} {vs : List Value} {m₀ : Str → Option Value} {news : List (Addr × Obj)} (J : Nat → (Str → Option Value) → List (Addr × Obj) → Prop) (hh : A.handled = none) (hl : h₀.IsList l vs.toArray) (F : Fr h₀ env.locals s.heap m₀) (N : News h₀ env.locals s.heap news) (hj : J 0 m₀ news)
    (turn : ∀ i v m₁ news₁ (s₁ : Shared) own, vs[i]? = some v → OwnOff own (news₁.map (·.1)) → J i m₁ news₁ → Fr h₀ env.locals s₁.heap m₁ → News h₀ env.locals s₁.heap (news₁ ++ own) →
      wpAny (model prog w) A (assign (.Name x px) env v) (fun _ s₃ => wpAny (model prog w) A (execs body env) (TEnd h₀ env.locals (J (i + 1)) own s₁) E s₃) E s₁)
    (done : ∀ m₁ news₁ h tk, J vs.length m₁ news₁ → Fr h₀ env.locals h m₁ → News h₀ env.locals h news₁ → Q .next { s with heap := h, toks := tk }) :
    wpAny (model prog w) A (pyIter (.ref l)) (fun it s₂ => LoopAtT prog w A h₀ env (.Name x px) body Q E it s₂) E s := by
  have hls : s.heap.IsList l vs.toArray := hl.at fun o e => F.keep l o e
  obtain ⟨ol, hol, _⟩ := id hl
  have hlt : l < h₀.objs.size := Heap.lt_size hol
  have hne : l ≠ s.heap.objs.size := Nat.ne_of_lt (Nat.lt_trans (Nat.lt_of_lt_of_le hlt F.above) F.ns.lt)
  refine wpAny_pyIter_list hls ?_
  have W := Walks.list (prog := prog) (w := w) hh s.heap.objs.size l hne vs.toArray
  have hlen : vs.toArray.size = vs.length := by simp
  rw [hlen] at W
  refine ⟨_, _, _, vs.length, _, _, m₀, news, J, rfl, W, ?_, ?_, ?_, ⟨⟨_, Heap.get?_push_size _ rfl, rfl, rfl⟩, hls.at fun o e => Heap.get?_push_of_some _ e⟩, F.push _, (fun p hp => ⟨Heap.get?_push_of_some _ (N p hp).1, (N p hp).2⟩), (fun i s' v Q' st hQ' => letGo_listiter st.1 hQ'), hj, ?_, ?_⟩
  · intro hm
    rcases List.mem_cons.mp hm with e | hm
    · exact absurd F.ns.lt (e ▸ Nat.lt_irrefl _)
    · exact absurd (Nat.lt_of_lt_of_le hlt F.above) ((List.mem_singleton.mp hm) ▸ Nat.lt_irrefl _)
  · intro b hb
    rw [List.mem_singleton.mp hb]
    exact next_is_new F
  · intro p hp hI
    exact absurd (Heap.lt_size (N p hp).1) ((List.mem_singleton.mp hI) ▸ Nat.lt_irrefl _)
  · intro i v m₁ news₁ s₁ own hi hPv hJ hoff hown hget hfp hst F₁ N₁
    have hP' : vs[i]? = some v := by simpa using hPv
    have hI0 : h₀.get? s.heap.objs.size = none := next_is_new F
    obtain ⟨⟨oI, hoI, _⟩, _⟩ := id hst
    have hIown : (s.heap.objs.size, oI) ∈ own.filter fun p => decide (p.1 = s.heap.objs.size) := List.mem_filter.mpr ⟨hfp _ (List.mem_cons.mpr (.inl rfl)) hI0 _ hoI, by simp⟩
    have hsep : OwnOff (own.filter fun p => decide (p.1 = s.heap.objs.size)) (news₁.map (·.1)) := by
      intro p hp b hb e
      obtain ⟨q, hq, rfl⟩ := List.mem_map.mp hb
      have h1 : p.1 = s.heap.objs.size := by simpa using (List.mem_filter.mp hp).2
      exact hoff q hq (List.mem_singleton.mpr (e ▸ h1))
    have N₂ : News h₀ env.locals s₁.heap (news₁ ++ own.filter fun p => decide (p.1 = s.heap.objs.size)) := fun p hp => N₁ p ((List.mem_append.mp hp).elim (fun h => List.mem_append.mpr (.inr h)) fun h => List.mem_append.mpr (.inl ((List.mem_filter.mp h).1)))
    refine wpAny_mono (turn i v m₁ news₁ s₁ _ hP' hsep hJ F₁ N₂) (fun _ s₃ h₃ => wpAny_mono h₃ (fun f s₂ p => tend_step hIown (fun p hp => ?_) (fun p hp => N₁ p (List.mem_append_left _ hp)) p) fun _ _ e => e) fun _ _ e => e
    by_cases hI : p.1 = s.heap.objs.size
    · exact .inl (List.mem_filter.mpr ⟨hp, by simpa using hI⟩)
    · refine .inr ?_
      rcases List.mem_cons.mp (hown p hp) with h2 | h2
      · exact absurd h2 hI
      · rw [List.mem_singleton.mp h2, hol]; simp
  · intro h' tk m' news' F' N' _ hJ
    exact done m' news' h' tk hJ F' N'
theorem iterT_range {r : Addr} {a₀ b₀ : Int} {t₀ u₀ v₀ : Tok} {n : Nat} {m₀ : Str → Option Value} {news : List (Addr × Obj)} (J : Nat → (Str → Option Value) → List (Addr × Obj) → Prop) (hh : A.handled = none) (hr : IsRange s.heap r a₀ b₀ 1 t₀ u₀ v₀) (hsmall : Builtin.Range.small a₀ b₀ 1 = true) (hn : Builtin.Range.rangeSize a₀ b₀ 1 = (n : Int)) (F : Fr h₀ env.locals s.heap m₀) (N : News h₀ env.locals s.heap news) (hj : J 0 m₀ news)
    (turn : ∀ i t m₁ news₁ (s₁ : Shared) own, i < n → OwnOff own (news₁.map (·.1)) → J i m₁ news₁ → Fr h₀ env.locals s₁.heap m₁ → News h₀ env.locals s₁.heap (news₁ ++ own) →
      wpAny (model prog w) A (assign (.Name x px) env (.int (a₀ + (i : Int)) t)) (fun _ s₃ => wpAny (model prog w) A (execs body env) (TEnd h₀ env.locals (J (i + 1)) own s₁) E s₃) E s₁)
    (done : ∀ m₁ news₁ h tk, J n m₁ news₁ → Fr h₀ env.locals h m₁ → News h₀ env.locals h news₁ → Q .next { s with heap := h, toks := tk }) :
    wpAny (model prog w) A (pyIter (.ref r)) (fun it s₂ => LoopAtT prog w A h₀ env (.Name x px) body Q E it s₂) E s := by
  refine wpAny_pyIter_range hr hsmall ?_
  have W : Walks prog w A s.heap.objs.size [s.heap.objs.size] [s.heap.objs.size] n (fun i v => i < n ∧ ∃ t, v = .int (a₀ + i * 1) t)
      (fun i h => IsRangeIter h s.heap.objs.size (a₀ + (i : Nat) * 1) ((n : Int) - (i : Nat)) 1) := (Walks.range hh _ a₀ 1 n).bound
  refine ⟨_, _, _, n, _, _, m₀, news, J, rfl, W, ?_, ?_, ?_, (by show IsRangeIter _ _ _ _ _; rw [hn]; simpa using Heap.get?_push_size _ rfl), F.push _, (fun p hp => ⟨Heap.get?_push_of_some _ (N p hp).1, (N p hp).2⟩), (fun i s' v Q' st hQ' => wpAny_pure hQ'), hj, ?_, ?_⟩
  · intro hm
    exact absurd F.ns.lt ((List.mem_singleton.mp hm) ▸ Nat.lt_irrefl _)
  · intro b hb
    rw [List.mem_singleton.mp hb]
    exact next_is_new F
  · intro p hp hI
    exact absurd (Heap.lt_size (N p hp).1) ((List.mem_singleton.mp hI) ▸ Nat.lt_irrefl _)
  · rintro i v m₁ news₁ s₁ own hi ⟨_, t, rfl⟩ hJ hoff hown hget hfp hst F₁ N₁
    have e1 : a₀ + (i : Int) * 1 = a₀ + (i : Int) := by omega
    rw [e1]
    have hI0 : h₀.get? s.heap.objs.size = none := next_is_new F
    have hIown := hfp _ (List.mem_singleton.mpr rfl) hI0 _ hst
    have hsep : OwnOff own (news₁.map (·.1)) := by
      intro p hp b hb e
      obtain ⟨q, hq, rfl⟩ := List.mem_map.mp hb
      exact hoff q hq (e ▸ hown p hp)
    have N₂ : News h₀ env.locals s₁.heap (news₁ ++ own) := fun p hp => N₁ p ((List.mem_append.mp hp).elim (fun h => List.mem_append.mpr (.inr h)) fun h => List.mem_append.mpr (.inl h))
    exact wpAny_mono (turn i t m₁ news₁ s₁ _ hi hsep hJ F₁ N₂) (fun _ s₃ h₃ => wpAny_mono h₃ (fun f s₂ p => tend_step hIown (fun p hp => .inl hp) (fun p hp => N₁ p (List.mem_append_left _ hp)) p) fun _ _ e => e) fun _ _ e => e
  · intro h' tk m' news' F' N' _ hJ
    exact done m' news' h' tk hJ F' N'
end
theorem fr_off {h₀ h : Heap} {L : Addr} {m m₀ : Str → Option Value} {x : Str} (hm : ∀ z, z ≠ x → m z = m₀ z) (F : Fr h₀ L h m) : Fr h₀ L h (fun z => if z = x then m z else m₀ z) := by
  have e : m = fun z => if z = x then m z else m₀ z := by
    funext z
    by_cases h1 : z = x
    · rw [if_pos h1]
    · rw [if_neg h1]; exact hm z h1
  exact e ▸ F
noncomputable def cellN (most i n : Int) : Nat := (if Int.fdiv i n + 1 < most then Int.fdiv i n + 1 else most).toNat
noncomputable def cellS (us : List Int) (part most whole : Int) : Int := ((rangeKs 0 (cellN most whole part)).map (fun t => us.getD (whole - part * t).toNat 0)).sum
theorem fdiv_small {i n : Int} (h0 : 0 ≤ i) (h7 : i < 7) (hn : 1 ≤ n) : 0 ≤ Int.fdiv i n ∧ Int.fdiv i n ≤ 6 ∧ n * Int.fdiv i n ≤ i := by
  rw [Int.fdiv_eq_ediv_of_nonneg _ (by omega)]
  refine ⟨Int.ediv_nonneg h0 (by omega), ?_, Int.mul_ediv_self_le (by omega)⟩
  have := Int.ediv_le_self n h0
  omega
theorem cell_idx {i n k most : Int} (h0 : 0 ≤ i) (h7 : i < 7) (hn : 1 ≤ n) (hlo : 0 ≤ k) (hhi : k < 0 + ((cellN most i n : Nat) : Int)) : 0 ≤ i - n * k ∧ i - n * k < 7 ∧ k ≤ 6 := by
  have h := fdiv_small h0 h7 hn
  have hk : k ≤ Int.fdiv i n := by
    unfold cellN at hhi
    split at hhi <;> omega
  have h1 : n * k ≤ n * Int.fdiv i n := Int.mul_le_mul_of_nonneg_left hk (by omega)
  have h2 : 0 ≤ n * k := Int.mul_nonneg (by omega) hlo
  omega
noncomputable def countStep (most : Int) (us : List Int) (part : Int) : List Int := (rangeKs 0 7).map (cellS us part most)
noncomputable def countsP (ns : List Int) (most : Int) : List Int := ns.foldl (countStep most) [1, 0, 0, 0, 0, 0, 0]
theorem counts_len (most : Int) : ∀ (pre us : List Int), us.length = 7 → (pre.foldl (countStep most) us).length = 7
  | [], us, h => h
  | p :: r, us, _ => counts_len most r (countStep most us p) (by unfold countStep; rw [List.length_map, rangeKs_length])
noncomputable def CJ (L : Addr) (ns : List Int) (g : List Int → Int → List Int) (ys : List Int) (m₀ : Str → Option Value) (i : Nat) (m : Str → Option Value) (nx : List (Addr × Obj)) : Prop :=
  ∃ (W : Addr) (us : List Value) (k : Nat) (o1 o2 o3 : Obj) (v2 v3 : Option Value), nx = [(W, listOf us.toArray k), (L + 1 + 1 + 1, o3), (L + 1 + 1, o2), (L + 1, o1)] ∧ o1.data = .cell (some (.ref W)) ∧ o2.data = .cell v2 ∧ o3.data = .cell v3 ∧ (@LT.lt Nat _ (L + 1 + 1 + 1) W ∧ @LT.lt Nat _ (L + 1 + 1) W ∧ @LT.lt Nat _ (L + 1) W) ∧ IntsAre us ((ns.take i).foldl g ys) ∧ ∀ z, z ≠ Str.ofString "more" → m z = m₀ z
theorem allLt_to {d : Nat} {l : List (Addr × Obj)} (h : AllLt d l) : ∀ p ∈ l, @LT.lt Nat _ p.1 d := by
  induction l with
  | nil => intro p hp; cases hp
  | cons a r ih =>
    intro p hp
    obtain ⟨h1, h2⟩ := h
    rcases List.mem_cons.mp hp with e | hp
    · rw [e]; exact h1
    · exact ih h2 p hp
/-- the end of a turn of the outer loop -/
noncomputable def OutEnd (h₀ : Heap) (L : Addr) (m₀ : Str → Option Value) (own : List (Addr × Obj)) (ys : List Int) (s₁ : Shared) (f : Flow) (s₂ : Shared) : Prop :=
  f = .next ∧ ∃ h' tk news' W us k o1 o2 o3 v2 v3 m', s₂ = { s₁ with heap := h', toks := tk } ∧ Fr h₀ L h' m' ∧ (∀ z, z ≠ Str.ofString "more" → m' z = m₀ z) ∧ News h₀ L h' news' ∧ (∀ p ∈ (W, listOf (List.toArray us) k) :: (L + 1 + 1 + 1, o3) :: (L + 1 + 1, o2) :: (L + 1, o1) :: own, p ∈ news') ∧ o1.data = .cell (some (.ref W)) ∧ o2.data = .cell v2 ∧ o3.data = .cell v3 ∧
    (@LT.lt Nat _ (L + 1 + 1 + 1) W ∧ @LT.lt Nat _ (L + 1 + 1) W ∧ @LT.lt Nat _ (L + 1) W) ∧ OwnOff own [W, L + 1 + 1 + 1, L + 1 + 1, L + 1] ∧ IntsAre us ys
/-- the end of a turn of the inner loop -/
noncomputable def InEnd (h₀ : Heap) (L : Addr) (m₀ : Str → Option Value) (ow2 : List (Addr × Obj)) (D W : Addr) (us9 : List Value) (k9 : Nat) (o1 o2 : Obj) (ys : List Int) (s₁ : Shared) (f : Flow) (s₂ : Shared) : Prop :=
  f = .next ∧ ∃ h' tk news' us k o3 v3, s₂ = { s₁ with heap := h', toks := tk } ∧ Fr h₀ L h' m₀ ∧ News h₀ L h' news' ∧ (∀ p ∈ (D, listOf (List.toArray us) k) :: (W, listOf us9.toArray k9) :: (L + 1 + 1 + 1, o3) :: (L + 1 + 1, o2) :: (L + 1, o1) :: ow2, p ∈ news') ∧ o3.data = .cell v3 ∧ IntsAre us ys
section
variable {prog : Program} {w : World} {A : Around} {E : Value → Shared → Prop} {s : Shared} {env : Env} {h₀ : Heap} {x : Str} {px : Pos} {body : List Stmt} {Q : Flow → Shared → Prop}
theorem loop_outer {L l W : Addr} {vs : List Value} {ns : List Int} (g : List Int → Int → List Int) {ys : List Int} {us : List Value} {k : Nat} {o1 o2 o3 : Obj} {v2 v3 : Option Value} {m₀ : Str → Option Value} (hL : env.locals = L) (hh : A.handled = none) (hl : h₀.IsList l vs.toArray) (hi : IntsAre vs ns)
    (F : Fr h₀ L s.heap m₀) (N : News h₀ L s.heap [(W, listOf us.toArray k), (L + 1 + 1 + 1, o3), (L + 1 + 1, o2), (L + 1, o1)]) (d1 : o1.data = .cell (some (.ref W))) (d2 : o2.data = .cell v2) (d3 : o3.data = .cell v3)
    (lt : @LT.lt Nat _ (L + 1 + 1 + 1) W ∧ @LT.lt Nat _ (L + 1 + 1) W ∧ @LT.lt Nat _ (L + 1) W) (hI : IntsAre us ys)
    (turn : ∀ (pre : List Int) n t zs W us k o1 o2 o3 v2 v3 own (u : Str → Option Value) (s₁ : Shared), n ∈ ns → zs = pre.foldl g ys → pre.length < ns.length → o1.data = .cell (some (.ref W)) → o2.data = .cell v2 → o3.data = .cell v3 → (@LT.lt Nat _ (L + 1 + 1 + 1) W ∧ @LT.lt Nat _ (L + 1 + 1) W ∧ @LT.lt Nat _ (L + 1) W) → OwnOff own [W, L + 1 + 1 + 1, L + 1 + 1, L + 1] →
      IntsAre us zs → Fr h₀ L s₁.heap (fun z => if z = Str.ofString "more" then u z else m₀ z) → News h₀ L s₁.heap ((W, listOf us.toArray k) :: (L + 1 + 1 + 1, o3) :: (L + 1 + 1, o2) :: (L + 1, o1) :: own) →
      wpAny (model prog w) A (assign (.Name x px) env (.int n t)) (fun _ s₃ => wpAny (model prog w) A (execs body env) (OutEnd h₀ L m₀ own (g zs n) s₁) E s₃) E s₁)
    (done : ∀ W us k o1 o2 o3 v2 v3 (u : Str → Option Value) h tk, o1.data = .cell (some (.ref W)) → o2.data = .cell v2 → o3.data = .cell v3 → (@LT.lt Nat _ (L + 1 + 1 + 1) W ∧ @LT.lt Nat _ (L + 1 + 1) W ∧ @LT.lt Nat _ (L + 1) W) →
      IntsAre us (ns.foldl g ys) → Fr h₀ L h (fun z => if z = Str.ofString "more" then u z else m₀ z) → News h₀ L h [(W, listOf us.toArray k), (L + 1 + 1 + 1, o3), (L + 1 + 1, o2), (L + 1, o1)] → Q .next { s with heap := h, toks := tk }) :
    wpAny (model prog w) A (pyIter (.ref l)) (fun it s₂ => LoopAtT prog w A h₀ env (.Name x px) body Q E it s₂) E s := by
  subst hL
  refine iterT_list (CJ env.locals ns g ys m₀) hh hl F N ⟨W, us, k, o1, o2, o3, v2, v3, rfl, d1, d2, d3, lt, hI, fun _ _ => rfl⟩ ?_ ?_
  · rintro i v m₁ _ s₁ own hv ho ⟨W, us, k, o1, o2, o3, v2, v3, rfl, d1, d2, d3, lt, hI, hm⟩ F N
    obtain ⟨n, t, rfl, hn⟩ := IntsAre.at hi i v hv
    have hlt : i < ns.length := (List.getElem?_eq_some_iff.mp hn).1
    refine wpAny_mono (turn (ns.take i) n t _ W us k o1 o2 o3 v2 v3 own m₁ s₁ (List.mem_of_getElem? hn) rfl (by rw [List.length_take]; omega) d1 d2 d3 lt ho hI (fr_off hm F) N) (fun _ s₃ h₃ => wpAny_mono h₃ (fun f s₂ p => ?_) fun _ _ e => e) fun _ _ e => e
    obtain ⟨rfl, h', tk, news', W, us, k, o1, o2, o3, v2, v3, m', rfl, F', hm', N', hin, d1, d2, d3, lt, ho', hI⟩ := p
    refine ⟨rfl, h', tk, m', news', [(W, listOf us.toArray k), (env.locals + 1 + 1 + 1, o3), (env.locals + 1 + 1, o2), (env.locals + 1, o1)], rfl, F', N', ?_, ?_, ho', ⟨W, us, k, o1, o2, o3, v2, v3, rfl, d1, d2, d3, lt, ?_, hm'⟩⟩
    · intro p hp
      refine hin p ?_
      simp only [List.mem_cons, List.not_mem_nil, or_false] at hp ⊢
      rcases hp with h | h | h | h
      · exact .inl h
      · exact .inr (.inl h)
      · exact .inr (.inr (.inl h))
      · exact .inr (.inr (.inr (.inl h)))
    · intro p hp
      exact hin p (List.mem_cons_of_mem _ (List.mem_cons_of_mem _ (List.mem_cons_of_mem _ (List.mem_cons_of_mem _ hp))))
    · rw [List.take_add_one, hn, List.foldl_append]; exact hI
  · rintro m₁ _ h tk ⟨W, us, k, o1, o2, o3, v2, v3, rfl, d1, d2, d3, lt, hI, hm⟩ F N
    rw [List.take_of_length_le (by rw [hi.length]; exact Nat.le_refl _)] at hI
    exact done W us k o1 o2 o3 v2 v3 m₁ h tk d1 d2 d3 lt hI (fr_off hm F) N
theorem loop_inner {L D W r : Addr} {t₀ u₀ v₀ : Tok} (f : Int → Int) {us9 : List Value} {k9 : Nat} {o1 o2 o3 : Obj} {v3 : Option Value} {own : List (Addr × Obj)} {m₀ : Str → Option Value} (hL : env.locals = L) (hh : A.handled = none) (hr : IsRange s.heap r 0 7 1 t₀ u₀ v₀)
    (hD : AllLt D own) (hW : @LT.lt Nat _ W D) (lt : @LT.lt Nat _ (L + 1 + 1 + 1) W ∧ @LT.lt Nat _ (L + 1 + 1) W ∧ @LT.lt Nat _ (L + 1) W) (ho : OwnOff own [W, L + 1 + 1 + 1, L + 1 + 1, L + 1]) (d3 : o3.data = .cell v3)
    (F : Fr h₀ L s.heap m₀) (N : News h₀ L s.heap ((D, listOf #[] 0) :: (W, listOf us9.toArray k9) :: (L + 1 + 1 + 1, o3) :: (L + 1 + 1, o2) :: (L + 1, o1) :: own))
    (turn : ∀ (i : Nat) t us k o3 v3 ow2 (s₁ : Shared), i < 7 → OwnOff ow2 [D, W, L + 1 + 1 + 1, L + 1 + 1, L + 1] → o3.data = .cell v3 → IntsAre us ((rangeKs 0 i).map f) → Fr h₀ L s₁.heap m₀ →
      News h₀ L s₁.heap ((D, listOf us.toArray k) :: (W, listOf us9.toArray k9) :: (L + 1 + 1 + 1, o3) :: (L + 1 + 1, o2) :: (L + 1, o1) :: ow2) →
      wpAny (model prog w) A (assign (.Name x px) env (.int (i : Int) t)) (fun _ s₃ => wpAny (model prog w) A (execs body env) (InEnd h₀ L m₀ ow2 D W us9 k9 o1 o2 ((rangeKs 0 (i + 1)).map f) s₁) E s₃) E s₁)
    (done : ∀ us k o3 v3 h tk, o3.data = .cell v3 → OwnOff own [D, W, L + 1 + 1 + 1, L + 1 + 1, L + 1] → IntsAre us ((rangeKs 0 7).map f) → Fr h₀ L h m₀ → News h₀ L h ((D, listOf us.toArray k) :: (W, listOf us9.toArray k9) :: (L + 1 + 1 + 1, o3) :: (L + 1 + 1, o2) :: (L + 1, o1) :: own) → Q .next { s with heap := h, toks := tk }) :
    wpAny (model prog w) A (pyIter (.ref r)) (fun it s₂ => LoopAtT prog w A h₀ env (.Name x px) body Q E it s₂) E s := by
  subst hL
  have hoD : OwnOff own [D, W, env.locals + 1 + 1 + 1, env.locals + 1 + 1, env.locals + 1] := fun p hp b hb => by
    rcases List.mem_cons.mp hb with rfl | hb
    · exact Nat.ne_of_lt (allLt_to hD p hp)
    · exact ho p hp b hb
  refine iterT_range (n := 7) (fun i m nx => ∃ us k o3 v3, nx = (D, listOf (List.toArray us) k) :: (W, listOf us9.toArray k9) :: (env.locals + 1 + 1 + 1, o3) :: (env.locals + 1 + 1, o2) :: (env.locals + 1, o1) :: own ∧ o3.data = .cell v3 ∧ IntsAre us ((rangeKs 0 i).map f) ∧ m = m₀)
    hh hr (by decide) (by decide) F N ⟨[], 0, o3, v3, rfl, d3, .nil, rfl⟩ ?_ ?_
  · rintro i t m₁ _ s₁ own' hi ho' ⟨us, k, o3, v3, rfl, d3, hI, rfl⟩ F N
    have hO : OwnOff (own ++ own') [D, W, env.locals + 1 + 1 + 1, env.locals + 1 + 1, env.locals + 1] := fun p hp b hb => by
      rcases List.mem_append.mp hp with hp | hp
      · exact hoD p hp b hb
      · refine ho' p hp b ?_
        simp only [List.map_cons, List.mem_cons, List.not_mem_nil, or_false] at hb ⊢
        rcases hb with h | h | h | h | h <;> simp [h]
    rw [show ((0 : Int) + (i : Int)) = (i : Int) by omega]
    refine wpAny_mono (turn i t us k o3 v3 (own ++ own') s₁ hi hO d3 hI F N) (fun _ s₃ h₃ => wpAny_mono h₃ (fun fl s₂ p => ?_) fun _ _ e => e) fun _ _ e => e
    obtain ⟨rfl, h', tk, news', us, k, o3, v3, rfl, F', N', hin, d3, hI⟩ := p
    refine ⟨rfl, h', tk, m₁, news', (D, listOf us.toArray k) :: (W, listOf us9.toArray k9) :: (env.locals + 1 + 1 + 1, o3) :: (env.locals + 1 + 1, o2) :: (env.locals + 1, o1) :: own, rfl, F', N', ?_, ?_, ho', ⟨us, k, o3, v3, rfl, d3, hI, rfl⟩⟩
    · intro p hp
      refine hin p ?_
      simp only [List.mem_cons, List.mem_append] at hp ⊢
      rcases hp with h | h | h | h | h | h
      · exact .inl h
      · exact .inr (.inl h)
      · exact .inr (.inr (.inl h))
      · exact .inr (.inr (.inr (.inl h)))
      · exact .inr (.inr (.inr (.inr (.inl h))))
      · exact .inr (.inr (.inr (.inr (.inr (.inl h)))))
    · intro p hp
      exact hin p (List.mem_cons_of_mem _ (List.mem_cons_of_mem _ (List.mem_cons_of_mem _ (List.mem_cons_of_mem _ (List.mem_cons_of_mem _ (List.mem_append_right _ hp))))))
  · rintro m₁ _ h tk ⟨us, k, o3, v3, rfl, d3, hI, rfl⟩ F N
    exact done us k o3 v3 h tk d3 hoD hI F N
end
theorem OutEnd.intro {h₀ h' : Heap} {L D W : Addr} {m₀ m' : Str → Option Value} {own : List (Addr × Obj)} {ys : List Int} {s₁ : Shared} {tk : Nat} {us : List Value} {k : Nat} {x9 o1 o2 o3 : Obj} {v2 v3 : Option Value} (F : Fr h₀ L h' m') (N : News h₀ L h' ((D, listOf us.toArray k) :: (W, x9) :: (L + 1 + 1 + 1, o3) :: (L + 1 + 1, o2) :: (L + 1, o1) :: own))
    (hm : ∀ z, z ≠ Str.ofString "more" → m' z = m₀ z) (d1 : o1.data = .cell (some (.ref D))) (d2 : o2.data = .cell v2) (d3 : o3.data = .cell v3) (lt : @LT.lt Nat _ (L + 1 + 1 + 1) D) (ho : OwnOff own [D, W, L + 1 + 1 + 1, L + 1 + 1, L + 1]) (hI : IntsAre us ys) :
    OutEnd h₀ L m₀ own ys s₁ .next { s₁ with heap := h', toks := tk } := by
  refine ⟨rfl, h', tk, _, D, us, k, o1, o2, o3, v2, v3, m', rfl, F, hm, N, ?_, d1, d2, d3, ⟨lt, ?_, ?_⟩, ?_, hI⟩
  · intro p hp
    simp only [List.mem_cons] at hp ⊢
    rcases hp with h | h | h | h | h
    · exact .inl h
    · exact .inr (.inr (.inl h))
    · exact .inr (.inr (.inr (.inl h)))
    · exact .inr (.inr (.inr (.inr (.inl h))))
    · exact .inr (.inr (.inr (.inr (.inr h))))
  · exact Nat.lt_trans (Nat.lt_succ_self _) lt
  · exact Nat.lt_trans (Nat.lt_succ_self _) (Nat.lt_trans (Nat.lt_succ_self _) lt)
  · intro p hp b hb
    refine ho p hp b ?_
    simp only [List.mem_cons, List.not_mem_nil, or_false] at hb ⊢
    rcases hb with h | h | h | h <;> simp [h]
theorem InEnd.intro {h₀ h' : Heap} {L D W : Addr} {m₀ : Str → Option Value} {ow2 : List (Addr × Obj)} {us9 : List Value} {k9 : Nat} {o1 o2 o3 : Obj} {v3 : Option Value} {ys : List Int} {s₁ : Shared} {tk : Nat} {us : List Value} {k : Nat} (F : Fr h₀ L h' m₀)
    (N : News h₀ L h' ((D, listOf us.toArray k) :: (W, listOf us9.toArray k9) :: (L + 1 + 1 + 1, o3) :: (L + 1 + 1, o2) :: (L + 1, o1) :: ow2)) (d3 : o3.data = .cell v3) (hI : IntsAre us ys) : InEnd h₀ L m₀ ow2 D W us9 k9 o1 o2 ys s₁ .next { s₁ with heap := h', toks := tk } :=
  ⟨rfl, h', tk, _, us, k, o3, v3, rfl, F, N, fun _ hp => hp, d3, hI⟩
theorem cells_next {us : List Value} {f : Int → Int} {i : Nat} {x : Int} {t : Tok} (h : IntsAre us ((rangeKs 0 i).map f)) (e : x = f i) : IntsAre (us ++ [.int x t]) ((rangeKs 0 (i + 1)).map f) := by
  have e2 : rangeKs 0 (i + 1) = rangeKs 0 i ++ [(i : Int)] := by
    simp [rangeKs, List.range_succ]
  rw [e2, List.map_append, e]
  exact IntsAre.append h (.cons _ _ .nil)
end SC9a
section SC9
local macro_rules | `(tactic| walk_at "zz0") => `(tactic| skip)
local macro_rules | `(tactic| walk_at "zz1") => `(tactic| skip)
local macro_rules | `(tactic| walk_at "zz2") => `(tactic| skip)
local macro_rules | `(tactic| walk_at "zz3") => `(tactic| skip)
local macro_rules | `(tactic| walk_at "zz4") => `(tactic| skip)
local macro_rules | `(tactic| walk_at "zz5") => `(tactic| skip)
local macro_rules | `(tactic| walk_at "zz6") => `(tactic| skip)
local macro_rules | `(tactic| walk_at "zz7") => `(tactic| skip)
local macro_rules | `(tactic| walk_at "zz8") => `(tactic| skip)
local macro_rules | `(tactic| walk_at "zz9") => `(tactic| skip)
local macro_rules | `(tactic| walk_at "zz10") => `(tactic| skip)
local macro_rules | `(tactic| walk_at "zz11") => `(tactic| skip)
local macro_rules | `(tactic| walk_at "zz12") => `(tactic| skip)
local macro_rules | `(tactic| walk_at "zz13") => `(tactic| skip)
theorem nilC9 : True := by
  k_with_none
  w_top off
  trivial
section D
local macro_rules | `(tactic| walk_at "exec For Name Name cons nil") => `(tactic| (k_here; (rename Fr _ _ _ _ => lF'); (with_unfolding_all refine' For_invTF lF' ?_ ?k2; (case k2 => (intro _; exact rfl)); k_whole)))
local macro_rules | `(tactic| walk_at "exec For Name Call cons nil") => `(tactic| (k_here; (rename Fr _ _ _ _ => lF'); (with_unfolding_all refine' For_invTF lF' ?_ ?k2; (case k2 => (intro _; exact rfl)); k_whole)))
local macro_rules | `(tactic| walk_at "call builtin:sum") => `(tactic| (k_dflt (first | k_extra "SUM" | refine Stop.go ?_)))
local macro_rules | `(tactic| walk_at "subscriptTail Name BinOp ref int") => `(tactic| (k_dflt (first | k_extra "SUBX" | refine Stop.go ?_)))
theorem counts_spec (l : Addr) (vs : List Value) (ns : List Int) (most : Int) (tm : Tok) (hz : ns.length < 100) (hns : ∀ x ∈ ns, 1 ≤ x ∧ x ≤ 6) (h0 : 0 ≤ most) (h1 : most < 100) : Spec 154 [.ref l, .int most tm] 3 80 (fun h => h.IsList l vs.toArray ∧ IntsAre vs ns)
    (fun h h' v => ∃ a us n, v = .ref a ∧ h.get? a = none ∧ h'.get? a = some (listOf us n) ∧ IntsAre us.toList (countsP ns most)) := by
  intro w mean mg mb dp un gd cn cs a ccd cl outer A₀ base h₀ L m s Q E B F X T hk hd hu hp hret
  k_dflt (refine' enterC [(Str.ofString "parts", .ref l), (Str.ofString "most", .int most tm)] B F X T rfl rfl hk ?k6 ?k7 ?k8 ?k9 ?kB ?kD ?_ ?c2 ?c3 ?c4; (case k6 => k_is); (case k7 => k_is); (case k8 => ktr_room); (case k9 => exact BindsTo.of_eq rfl); (case kB => exact rfl); (case kD => decide +kernel); (case c2 => exact rfl); (case c3 => exact rfl); (case c4 => exact rfl); k_whole; intro g L' h' tk' cells' eg F' N' Y' B' X' T'; k_cells Y'; (try dsimp only))
  (try rw [← eg] at hp); rw [← eg] at hret
  clear B F X T eg
  (try k_unmd)
  k_fold
  obtain ⟨hl, hi⟩ := hp
  k_with "LOOP" => ((rename Fr _ _ _ _ => lF); (rename News _ _ _ _ => lN); first
    | ((rename IsRange _ _ _ _ _ _ _ _ => lR); (rename _ ∧ _ ∧ _ ∧ _ ∧ AllLt _ _ => l9); (refine' loop_inner (L := L') (cellS zs9 n most) rfl rfl lR l9.2.2.2.2 l9.1 lt9 ho9 (by assumption) lF lN ?turn2 ?done2; clear lF lN); (case' turn2 => (intro i t us k o3 v3 ow2 s₁ hi9 hO9 d39 hI8 F N; have hq9 := fdiv_small (i := (i : Int)) (n := n) (by omega) (by omega) hn7; (try k_unmd); (try k_fold))); (case' done2 => (intro us k o3 v3 h tk d39 hO9 hI8 F N; (try k_unmd); (try k_fold))))
    | (refine' loop_outer (L := L') (countStep most) rfl rfl hl hi lF lN (by assumption) (by assumption) (by assumption) (by (refine ⟨?_, ?_, ?_⟩ <;> (try dsimp only) <;> omega)) (.cons _ _ (.cons _ _ (.cons _ _ (.cons _ _ (.cons _ _ (.cons _ _ (.cons _ _ .nil))))))) ?turn ?done; clear lF lN; (case' turn => (intro pre n t zs9 W9 us9 k9 o1 o2 o3 v2 v3 own u s₁ hn9 hzs9 hpre9 d1 d2 d3 lt9 ho9 hI9 F N; have hn7 := (hns n hn9).1; have hn6 := (hns n hn9).2; have hz9 : zs9.length = 7 := (by rw [hzs9]; exact counts_len _ _ _ rfl); (try k_unmd); (try k_fold))); (case' done => (intro W9 us9 k9 o1 o2 o3 v2 v3 u h tk d1 d2 d3 lt9 hI9 F N; (try k_unmd); (try k_fold)))))
  have e7 : Builtin.Range.small 0 7 1 = true := by decide
  k_with "CS" => (refine LCg.CompSrc.range (by rfl) (by k_asm) (by k_asm) (by assumption) (small_one (by decide) (by decide) (by split <;> omega) (by split <;> omega)) (n := cellN most (i : Int) n) (by unfold cellN; rw [rangeSize_nat]; congr 1; split <;> omega) (by unfold cellN; rw [PySem.sizeLine_eq]; split <;> omega) ?_; intro g'; refine' comp_range (fun k y => ∃ t, y = Value.int (zs9.getD ((i : Int) - n * k).toNat 0) t) (fun kk t I oI C oC D9 m₂ ys h tk E' hlo hhi hC hx F N off ne => ?_) ?_; (all_goals (try (have hx9 := cell_idx (by omega) (by omega) hn7 hlo hhi))); (all_goals (try (have off0 := off))); (all_goals (try (simp only [LCg.Off3, and_true] at off))); (all_goals (try k_fold)))
  k_with "SUBX" => (refine item_list_ints (by is_list) hI9 (by omega) (by rw [hz9]; omega) (by omega) ?_; intro t9)
  k_with "SUM" => (refine LSm.sum_ints (by k_asm) (by k_asm) (by rfl) (by is_list) (Each.ints (by assumption)) ?_; intro h9 tk9 t9 F9 N9)
  k_steps
  k_with_none
  · (try dsimp only)
    exact Back.ret (by assumption) fun st => hret _ _ _ st ⟨_, _, _, rfl, News.fresh (h₀ := g) (by assumption) List.mem_cons_self, News.get (by assumption) List.mem_cons_self, hI9⟩
  · refine OutEnd.intro (by assumption) (by assumption) ?_ (by assumption) (by assumption) (by assumption) l9.2.1 (by assumption) hI8
    intro z hz; simp [hz]
  · exact LCg.CompEnd.intro (by assumption) (by assumption) _ (fun p hp => hp) off0 trivial ⟨rfl, _, rfl⟩
  · rename News _ _ _ _ => N9
    rw [List.push_toArray] at N9
    exact InEnd.intro (by assumption) (fun p hp => N9 p (List.mem_cons_of_mem _ hp)) (by assumption) (cells_next hI8 rfl)
end D
end SC9
section SC10
theorem nilC10 : True := by
  k_with_none
  w_top off
  trivial
local macro_rules | `(tactic| walk_at "execs cons") => `(tactic| (k_here; (try dsimp only); first | k_gentoks | (k_made; walk_at "execs cons") | (refine seq_gen ?_; intro R9 K9)))
local macro_rules | `(tactic| walk_at "KNext next") => `(tactic| (refine seq_on (by assumption) ?_))
local macro_rules | `(tactic| walk_at "KNext") => `(tactic| (refine seq_off (by assumption) rfl ?_; (try dsimp only)))
section D
local macro_rules | `(tactic| walk_at "exec While BoolOp cons nil") => `(tactic| k_dflt (first | k_extra "WB" | refine Stop.go ?_))
local macro_rules | `(tactic| walk_at "compareOp NotIn str ref") => `(tactic| k_dflt (first | k_extra "NIN" | refine Stop.go ?_))
local macro_rules | `(tactic| walk_at "call builtin:len") => `(tactic| ((with_reducible show wpAny _ _ (call (Value.builtin "len") [Value.str _ _]) _ _ _); k_dflt (k_extra "LEN")))
local macro_rules | `(tactic| walk_at "call type:int") => `(tactic| k_dflt (first | k_extra "INT" | refine Stop.go ?_))
local macro_rules | `(tactic| walk_at "subscriptTail") => `(tactic| ((with_reducible show wpAny _ _ (subscriptTail _ _ (Value.ref 71) (Value.str _ _)) _ _ _); k_dflt (first | k_extra "EXI" | refine Stop.go ?_)))
theorem symbols_spec (x : Str) (tx : Tok) (hx : x.length ≤ 600) (fu : Nat) (r : List Int) (hr : symsP x fu 0 = some r) : Spec 121 [.str x tx] 2 80 (fun _ => True) (fun h h' v => ∃ a us n, v = .ref a ∧ h.get? a = none ∧ h'.get? a = some (listOf us n) ∧ IntsAre us.toList (r ++ [0])) := by
  intro w mean mg mb dp un gd cn cs a ccd cl outer A₀ base h₀ L m s Q E B F X T hk hd hu hp hret
  k_dflt (refine' enter [(Str.ofString "text", .str x tx)] B F X T rfl rfl hk ?k6 ?k7 ?k8 ?k9 ?kB ?_ ?c2 ?c3 ?c4 ?c5; (case k6 => k_is); (case k7 => k_is); (case k8 => ktr_room); (case k9 => exact BindsTo.of_eq rfl); (case c5 => decide); (case kB => exact locs rfl); (case c2 => exact rfl); (case c3 => exact rfl); (case c4 => exact rfl); k_whole; intro g L' h' tk' eg F' N' B' X' T'; (try dsimp only))
  (try rw [← eg] at hp); rw [← eg] at hret
  clear B F X T eg
  (try k_unmd)
  k_fold
  k_with "LEN" => (refine SBL.len (by omega) ?_)
  k_with "W" => ((rename Fr _ _ _ _ => lF); (rename News _ _ _ _ => lN); (with_unfolding_all refine' ksw_while (σ := (Int × Tok) × (List Value × List Int × Nat × Nat)) (fun c => [(_, listOf c.2.1.toArray c.2.2.2.1)]) (fun c => [(Str.ofString "place", .int c.1.1 c.1.2)]) (fun _ => True) [Str.ofString "size"] (fun c => (0 ≤ c.1.1 ∧ (c.2.2.1.length : Int) ≤ c.1.1 ∧ c.1.1 ≤ (x.length : Int) + 3) ∧ IntsAre c.2.1 c.2.2.1 ∧ ∃ rest, symsP x c.2.2.2.2 c.1.1 = some rest ∧ c.2.2.1 ++ rest = r) (fun c => c.2.2.2.2) ((0, _), [], [], 0, fu) lF lN ?kf ?kk ?kp ?_); (case kf => trivial); (case kp => exact ⟨⟨Int.le_refl _, Int.le_refl _, Int.add_nonneg (Int.natCast_nonneg _) (by decide)⟩, .nil, r, hr, rfl⟩); (case kk => kst_all); rintro ⟨⟨p, tp⟩, us, ys, k, f⟩ u h tk _ ⟨⟨hp0, hp1, hp2⟩, hI9, rest, hs9, hy9⟩ F N; (try dsimp only at hp0 hp1 hp2 hI9 hs9 hy9 F N); have hpm : (x.length : Int) ≤ p + 1 + (x.length : Int) := (by omega); (try k_fold))
  have h03 : (0 : Int) ≤ 3 := by decide
  k_with "CAT" => (refine' kmk_add_ints ?F9 ?N9 ?a9 ?b9 hI9 (.cons _ _ .nil) ?_ ?z9; (case F9 => k_asm); (case N9 => k_asm); (case a9 => is_list); (case b9 => is_list); (case z9 => (rw [PySem.sizeLine_eq]; simp only [List.length_cons, List.length_nil]; omega)); intro D9 ws9 h9 F9 N9 l9 hI9)
  k_with "WB" => ((rename Fr _ _ _ _ => lF); (rename News _ _ _ _ => lN); have hpl : p + 1 ≤ (x.length : Int) := (by omega); first
    | ((with_unfolding_all refine' ksw_while (σ := Int × Tok) (fun _ => _) (fun c => [(Str.ofString "size", .int c.1 c.2)]) (fun _ => True) [] (fun c => 0 ≤ c.1 ∧ c.1 ≤ 3 ∧ sizeP x p c.1.toNat = sizeP x p 3) (fun c => c.1.toNat) (3, _) lF lN ?kf2 ?kk2 ?kp2 ?_); (case kf2 => trivial); (case kp2 => exact ⟨h03, Int.le_refl _, rfl⟩); (case kk2 => kst_all); rintro ⟨sz, tsz⟩ u h tk _ ⟨hz0, hz3, hzp⟩ F N; (try dsimp only at hz0 hz3 hzp F N); (try k_fold))
    | ((with_unfolding_all refine' ksw_while (σ := (Int × Tok) × Nat) (fun _ => _) (fun c => [(Str.ofString "size", .int c.1.1 c.1.2)]) (fun _ => True) [] (fun c => 1 ≤ c.1.1 ∧ p + c.1.1 ≤ (x.length : Int) ∧ digP x p c.2 c.1.1 = digP x p x.length 1 ∧ (x.length : Int) ≤ p + c.1.1 + (c.2 : Int)) (fun c => c.2) ((1, _), x.length) lF lN ?kf3 ?kk3 ?kp3 ?_); (case kf3 => trivial); (case kp3 => exact ⟨Int.le_refl _, hpl, rfl, hpm⟩); (case kk3 => kst_all); rintro ⟨⟨ds, tds⟩, df⟩ u h tk _ ⟨hd1, hdl, hdp, hdf⟩ F N; (try dsimp only at hd1 hdl hdp hdf F N); (try k_fold)))
  k_with "EXI" => (obtain ⟨f9, v9, r9, hf9, hv9, hr9, he9⟩ := syms_tab (by assumption) (by assumption) hzp (by assumption) hs9; refine exact_item (by k_asm) (by assumption) hv9 ?_; intro u9)
  k_with "INT" => (have hdd : ds = digP x p x.length 1 := (by first | exact dig_off1 (by assumption) hdp | exact dig_off3 (by assumption) (by assumption) hdp); obtain ⟨f9, v9, r9, hf9, hv9, hr9, he9⟩ := syms_int (by assumption) (by assumption) hzp (by assumption) hdd hs9; refine KIN.call_text hv9 (by omega) ?_; clear hv9)
  k_with "NIN" => (refine exact_notin (by k_asm) (by assumption) ?_)
  k_steps
  k_with_none
  · rename News _ _ _ _ => N9
    rw [List.push_toArray] at N9
    refine' ksw_end ((p + sz, _), us ++ [.int v9 u9], ys ++ [v9], k + 1, f9) (by assumption) N9 ?a1 trivial ?a2 ?a3 ⟨⟨by dsimp only; omega, ?a5, by dsimp only; omega⟩, ?a7, r9, hr9, ?a6⟩ ?a4
    case a1 => kst_in
    case a2 => kst_all
    case a3 => (intro z h2 h3; simp only [List.forall_mem_cons, List.not_mem_nil, false_implies, implies_true, and_true, ne_eq] at h2; simp only [List.contains_cons, List.contains_nil, Bool.or_false, beq_eq_false_iff_ne, ne_eq] at h3; simp [kstB, h2, h3])
    case a4 => (dsimp only; omega)
    case a5 => (dsimp only; simp only [List.length_append, List.length_cons, List.length_nil]; omega)
    case a7 => exact ints_snoc hI9
    case a6 => (dsimp only; rw [← hy9, he9, List.append_assoc]; rfl)
  · refine' ksw_end (sz - 1, _) (by assumption) (by assumption) ?b1 trivial ?b2 ?b3 ⟨by dsimp only; omega, by dsimp only; omega, (size_off (by assumption) (by assumption)).trans hzp⟩ ?b4
    case b1 => kst_in
    case b2 => kst_all
    case b3 => (intro z h2 h3; simp only [List.forall_mem_cons, List.not_mem_nil, false_implies, implies_true, and_true, ne_eq] at h2; simp [kstB, h2])
    case b4 => (dsimp only; omega)
  · rename News _ _ _ _ => N9
    rw [List.push_toArray] at N9
    obtain ⟨f9, r9, hf9, hr9, he9⟩ := syms_x (by assumption) (by assumption) hzp (by assumption) hs9
    refine' ksw_end ((p + 1, _), us ++ [.int 256 _], ys ++ [256], k + 1, f9) (by assumption) N9 ?a1 trivial ?a2 ?a3 ⟨⟨by dsimp only; omega, ?a5, by dsimp only; omega⟩, ?a7, r9, hr9, ?a6⟩ ?a4
    case a1 => kst_in
    case a2 => kst_all
    case a3 => (intro z h2 h3; simp only [List.forall_mem_cons, List.not_mem_nil, false_implies, implies_true, and_true, ne_eq] at h2; simp only [List.contains_cons, List.contains_nil, Bool.or_false, beq_eq_false_iff_ne, ne_eq] at h3; simp [kstB, h2, h3])
    case a4 => (dsimp only; omega)
    case a5 => (dsimp only; simp only [List.length_append, List.length_cons, List.length_nil]; omega)
    case a7 => exact ints_snoc hI9
    case a6 => (dsimp only; rw [← hy9, he9, List.append_assoc]; rfl)
  · rename News _ _ _ _ => N9
    rw [List.push_toArray] at N9
    refine' ksw_end ((p + ds, _), us ++ [.int (256 + v9) _], ys ++ [256 + v9], k + 1, f9) (by assumption) N9 ?a1 trivial ?a2 ?a3 ⟨⟨by dsimp only; omega, ?a5, by dsimp only; omega⟩, ?a7, r9, hr9, ?a6⟩ ?a4
    case a1 => kst_in
    case a2 => kst_all
    case a3 => (intro z h2 h3; simp only [List.forall_mem_cons, List.not_mem_nil, false_implies, implies_true, and_true, ne_eq] at h2; simp only [List.contains_cons, List.contains_nil, Bool.or_false, beq_eq_false_iff_ne, ne_eq] at h3; simp [kstB, h2, h3])
    case a4 => (dsimp only; omega)
    case a5 => (dsimp only; simp only [List.length_append, List.length_cons, List.length_nil]; omega)
    case a7 => exact ints_snoc hI9
    case a6 => (dsimp only; rw [← hy9, he9, List.append_assoc]; rfl)
  · obtain ⟨f9, hf9, hr9⟩ := dig_on3 hdf (by assumption) (by assumption) hdp
    refine' ksw_end ((ds + 1, _), f9) (by assumption) (by assumption) ?b1 trivial ?b2 ?b3 ⟨by dsimp only; omega, by dsimp only; omega, hr9, by dsimp only; omega⟩ ?b4
    case b1 => kst_in
    case b2 => kst_all
    case b3 => (intro z h2 h3; simp only [List.forall_mem_cons, List.not_mem_nil, false_implies, implies_true, and_true, ne_eq] at h2; simp [kstB, h2])
    case b4 => (dsimp only; omega)
  · rename News _ _ _ _ => N9
    rw [List.push_toArray] at N9
    refine' ksw_end ((p + ds, _), us ++ [.int (256 + v9) _], ys ++ [256 + v9], k + 1, f9) (by assumption) N9 ?a1 trivial ?a2 ?a3 ⟨⟨by dsimp only; omega, ?a5, by dsimp only; omega⟩, ?a7, r9, hr9, ?a6⟩ ?a4
    case a1 => kst_in
    case a2 => kst_all
    case a3 => (intro z h2 h3; simp only [List.forall_mem_cons, List.not_mem_nil, false_implies, implies_true, and_true, ne_eq] at h2; simp only [List.contains_cons, List.contains_nil, Bool.or_false, beq_eq_false_iff_ne, ne_eq] at h3; simp [kstB, h2, h3])
    case a4 => (dsimp only; omega)
    case a5 => (dsimp only; simp only [List.length_append, List.length_cons, List.length_nil]; omega)
    case a7 => exact ints_snoc hI9
    case a6 => (dsimp only; rw [← hy9, he9, List.append_assoc]; rfl)
  · have e0 := syms_end (by assumption) hs9
    rw [e0, List.append_nil] at hy9
    subst hy9
    exact Back.ret (by assumption) fun st => hret _ _ _ st ⟨_, _, _, rfl, News.fresh (h₀ := g) (by assumption) List.mem_cons_self, News.get (by assumption) List.mem_cons_self, hI9⟩
end D
end SC10
section SC11
local macro_rules | `(tactic| walk_at "zz0") => `(tactic| skip)
local macro_rules | `(tactic| walk_at "zz1") => `(tactic| skip)
local macro_rules | `(tactic| walk_at "zz2") => `(tactic| skip)
local macro_rules | `(tactic| walk_at "zz3") => `(tactic| skip)
local macro_rules | `(tactic| walk_at "zz4") => `(tactic| skip)
local macro_rules | `(tactic| walk_at "zz5") => `(tactic| skip)
local macro_rules | `(tactic| walk_at "zz6") => `(tactic| skip)
local macro_rules | `(tactic| walk_at "zz7") => `(tactic| skip)
local macro_rules | `(tactic| walk_at "zz8") => `(tactic| skip)
theorem nilC11 : True := by
  k_with_none
  w_top off
  trivial
local macro_rules | `(tactic| walk_at "execs cons") => `(tactic| (k_here; (try dsimp only); first | ((with_reducible show wpAny _ _ _ _ _ (Shared.mk _ _ _ (_ + 1) _)); refine gen_toks ?_; intro t9; dsimp only) | (k_made; walk_at "execs cons") | (refine seq_gen ?_; intro R9 K9)))
local macro_rules | `(tactic| walk_at "KNext next") => `(tactic| (refine seq_on (by assumption) ?_))
local macro_rules | `(tactic| walk_at "KNext") => `(tactic| (refine seq_off (by assumption) rfl ?_; (try dsimp only)))
section D
local macro_rules | `(tactic| walk_at "exec While BoolOp cons nil") => `(tactic| k_dflt (first | k_extra "WB" | refine Stop.go ?_))
local macro_rules | `(tactic| walk_at "subscriptTail Name UnaryOp ref int") => `(tactic| (k_dflt (first | k_extra "SUBN" | refine Stop.go ?_)))
local macro_rules | `(tactic| walk_at "subscriptTail Name Name ref int") => `(tactic| (k_dflt (first | k_extra "RANK" | refine Stop.go ?_)))
local macro_rules | `(tactic| walk_at "subscriptTail Name Subscript ref int") => `(tactic| (k_dflt (first | k_extra "RANK" | refine Stop.go ?_)))
local macro_rules | `(tactic| walk_at "subscriptTail Name Call ref int") => `(tactic| (k_dflt (first | k_extra "DEED" | refine Stop.go ?_)))
local macro_rules | `(tactic| walk_at "call builtin:list.pop") => `(tactic| (k_dflt (first | k_extra "POP" | refine Stop.go ?_)))
local macro_rules | `(tactic| walk_at "compareOp NotEq ref ref") => `(tactic| (k_dflt (first | k_extra "NEQ" | refine Stop.go ?_)))
theorem worth_spec (l : Addr) (vs : List Value) (ns : List Int) (unit limit r : Int) (tu tl : Tok) (hr : worthP unit limit ns = some r) : Spec 135 [.ref l, .int unit tu, .int limit tl] 8 160 (fun h => h.IsList l vs.toArray ∧ IntsAre vs ns) (fun _ _ v => ∃ t, v = .int r t) := by
  intro w mean mg mb dp un gd cn cs a ccd cl outer A₀ base h₀ L m s Q E B F X T hk hd hu hp hret
  k_dflt (refine' enter [(Str.ofString "symbols", .ref l), (Str.ofString "unit", .int unit tu), (Str.ofString "limit", .int limit tl)] B F X T rfl rfl hk ?k6 ?k7 ?k8 ?k9 ?kB ?_ ?c2 ?c3 ?c4 ?c5; (case k6 => k_is); (case k7 => k_is); (case k8 => ktr_room); (case k9 => exact BindsTo.of_eq rfl); (case c5 => decide); (case kB => exact locs rfl); (case c2 => exact rfl); (case c3 => exact rfl); (case c4 => exact rfl); k_whole; intro g L' h' tk' eg F' N' B' X' T'; (try dsimp only))
  (try rw [← eg] at hp); rw [← eg] at hret
  clear B F X T eg
  (try k_unmd)
  k_fold
  obtain ⟨hl, hi⟩ := hp
  obtain ⟨rest9, wsf9, hrl, hrf⟩ := worth_fold hr
  k_with "LOOP" => ((rename Fr _ _ _ _ => lF); (rename News _ _ _ _ => lN); (refine' kst_list (σ := (List Value × List Int × Nat) × (List Value × List Int × Nat)) (fun c => [(_, listOf c.2.1.toArray c.2.2.2), (_, listOf c.1.1.toArray c.1.2.2), (_, _), (_, _)]) (fun _ => []) (fun _ => True) [Str.ofString "right", Str.ofString "left"] (fun pre c => IntsAre c.1.1 c.1.2.1.reverse ∧ IntsAre c.2.1 c.2.2.1.reverse ∧ foldO (stepP unit limit) (some ([], [])) pre = some (c.1.2.1, c.2.2.1)) (([], [], 0), ([], [], 0)) (by rfl) hl (by assumption) lF lN trivial (by intro p hp; cases hp) ⟨.nil, .nil, rfl⟩ ?turn ?done); clear lF lN; (case' turn => (rintro ⟨⟨us1, ps, k1⟩, us2, ws, k2⟩ pre post n t u h tk own e9 hm9 ho9 _ ⟨hI1, hI2, hf9⟩ F N; dsimp only at hI1 hI2 hf9 F N; replace N : News _ _ _ (_ :: _ :: _ :: _ :: own) := N; obtain ⟨⟨ps', ws'⟩, hst, hf8⟩ := foldO_step (e9 ▸ hrf) hf9; have hlen := step_len hst; (try k_unmd); (try k_fold))); (case' done => (rintro ⟨⟨us1, ps, k1⟩, us2, ws, k2⟩ u h tk _ ⟨hI1, hI2, hf9⟩ F N; dsimp only at hI1 hI2 hf9 F N; have ep9 := done_eq hrf hf9; subst ep9; have hz1 := hI1.length; obtain ⟨us1, tt, e1, hJ1⟩ := ints_top hI1; subst e1; simp only [List.length_cons, List.length_append, List.length_reverse, List.length_nil] at hz1; (try k_unmd); (try k_fold))))
  k_with "SPEC" => first | exact ipow_spec _ _ _ _ hr7 hr8 hl8 | exact nt_spec _ _ | exact eof_spec _ _ | exact further_spec _ _ _ _ 100 _ (by assumption) (by assumption)
  k_with "SUBN" => first
    | (obtain ⟨p9, r9, v9, hps9, hfit9, hfur9, hq9⟩ := step_dots (by assumption) (by assumption) hst; subst hps9; have hz1 := hI1.length; obtain ⟨us9, t9, hus9, hI9⟩ := ints_top hI1; subst hus9; simp only [List.length_cons, List.length_append, List.length_reverse, List.length_nil] at hz1 hlen; refine item_snoc (by is_list) (by omega) ?_)
    | (refine item_snoc (us := us2) (by is_list) (by omega) ?_)
  k_with "WB" => ((rename Fr _ _ _ _ => lF); (rename News _ _ _ _ => lN); obtain ⟨rs9, ps9, ws9, hrk9, hrd9, hA9, hB9, hC9⟩ := step_op (by assumption) (by assumption) (by assumption) hst; (with_unfolding_all refine' ksw_while (σ := (List Value × List Int × Nat) × (List Value × List Int × Nat)) (fun c => (_, listOf c.2.1.toArray c.2.2.2) :: (_, listOf c.1.1.toArray c.1.2.2) :: _) (fun _ => []) (fun _ => True) [Str.ofString "right", Str.ofString "left"] (fun c => IntsAre c.1.1 c.1.2.1.reverse ∧ IntsAre c.2.1 c.2.2.1.reverse ∧ (c.1.2.1.length ≤ 1000 ∧ c.2.2.1.length ≤ 1000) ∧ reduceP rs9 c.2.2.1 c.1.2.1 = some (ps9, ws9)) (fun c => c.2.2.1.length) ((us1, ps, k1), (us2, ws, k2)) lF lN ?kf3 ?kk3 ?kp3 ?_); (case kf3 => trivial); (case kp3 => exact ⟨hI1, hI2, ⟨Nat.le_trans (Nat.le_add_right _ _) hlen, Nat.le_trans (Nat.le_add_left _ _) hlen⟩, hrd9⟩); (case kk3 => (intro p hp; cases hp)); clear lF lN; clear hI1 hI2 hf9 hrd9; rintro ⟨⟨us1, ps, k1⟩, us2, ws, k2⟩ u h tk _ ⟨hI1, hI2, ⟨hlp, hlw⟩, hrd⟩ F N; dsimp only at hI1 hI2 hlp hlw hrd F N; rcases ws with _ | ⟨wt, ws⟩; (all_goals (try (have hz2 := hI2.length; obtain ⟨us2, twt, e2, hJ2⟩ := ints_top hI2; subst e2; obtain ⟨rw9, hrw9⟩ := reduce_rank hrd; simp only [List.length_cons, List.length_append, List.length_reverse, List.length_nil] at hz2 hlw))); (all_goals (try k_unmd)); (all_goals (try k_fold)))
  k_with "RANK" => (refine item_intTab (by k_tabat) (rank_lookup (by first | exact hrk9 | exact hrw9)) ?_; intro v9 hv9; obtain ⟨tv9, ev9⟩ := flat_int hv9 g; subst ev9; clear hv9)
  k_with "NEQ" => first
    | (refine' ne_nilK ?a7 hI2 ?a9 ?a10 ?_; (case a7 => is_list); (case a9 => is_list); (case a10 => ktr_units))
    | (refine' ne_consK ?d7 hI2 ?d9 ?d10 ?_; (case d7 => is_list); (case d9 => is_list); (case d10 => ktr_units))
  k_with "POP" => first
    | (refine' kl_pop ?b1 ?b2 ?b5 ?b4 ?b6 ?_; (case b1 => k_asm); (case b2 => k_asm); (case b4 => k_upd); (case b5 => exact last_snoc _ _); (case b6 => (rw [PySem.sizeLine_eq]; (try simp only [List.toList_toArray, List.length_append, List.length_cons, List.length_nil]); omega)); intro h9 F9 N9)
    | (obtain ⟨rr9, rl9, ps8, v9, hps8, hd8, hrd8⟩ := reduce_go hrw9 (by assumption) hrd; subst hps8; have hz1 := hI1.length; obtain ⟨us7, t7, e7, hI7⟩ := ints_top hI1; subst e7; obtain ⟨us6, t6, e6, hI6⟩ := ints_top hI7; subst e6; simp only [List.length_cons, List.length_append, List.length_reverse, List.length_nil] at hz1 hlp; refine' kl_pop ?c1 ?c2 ?c5 ?c4 ?c6 ?_; (case c1 => k_asm); (case c2 => k_asm); (case c4 => k_upd); (case c5 => exact last_snoc _ _); (case c6 => (rw [PySem.sizeLine_eq]; (try simp only [List.toList_toArray, List.length_append, List.length_cons, List.length_nil]); omega)); intro h9 F9 N9)
    | (exfalso; obtain ⟨x9, hx9, _⟩ := hA9 (by assumption); have e8 := congrArg Prod.snd (reduce_nil hrd); dsimp only at e8; rw [e8] at hx9; cases hx9)
  k_with "side" => exact fitMul hl8 hr8
  k_with "DEED" => (rcases deed_cases hd8 with ⟨hw8, hv8⟩ | ⟨hw8, hl8, hr8, hv8⟩ | ⟨hw8, hr7, hr8, hl8, hv8⟩ <;> subst hw8 <;> (refine item_dict (by k_asm) (by k_mem) (by assumption) (by rfl) ?_))
  k_with "LE" => (refine Stop.go ?_)
  k_with "WE" => (refine Stop.go ?_)
  k_steps
  k_with_none
  · (try dsimp only)
    exact Back.ret (by assumption) fun st => hret _ _ _ st ⟨_, rfl⟩
  · have e8 := step_big (by assumption) hst
    rw [if_pos (by assumption)] at e8
    rw [e8] at hf8
    rename News _ _ _ _ => N8
    (try simp only [List.push_toArray] at N8)
    unfold Stop
    refine' kst_end ((us1 ++ [.int (n - 256) _], (n - 256) :: ps, k1 + 1), us2, ws, k2) (by assumption) N8 ?a1 ?a2 rfl trivial ?a3 ?a4 ?a5
    case a1 => kst_in
    case a2 => (intro p hp; kst_mem)
    case a3 => (intro p hp; cases hp)
    case a4 => (intro z h1 h2 h3; simp only [List.contains_cons, List.contains_nil, Bool.or_false, Bool.or_eq_false_iff, beq_eq_false_iff_ne, ne_eq] at h3; simp [kstB, h1, h3.1, h3.2])
    case a5 => exact ⟨ints_push hI1, hI2, hf8⟩
  · have e8 := step_big (by assumption) hst
    rw [if_neg (by assumption)] at e8
    rw [e8] at hf8
    rename News _ _ _ _ => N8
    (try simp only [List.push_toArray] at N8)
    unfold Stop
    refine' kst_end ((us1 ++ [.int unit _], unit :: ps, k1 + 1), us2, ws, k2) (by assumption) N8 ?a1 ?a2 rfl trivial ?a3 ?a4 ?a5
    case a1 => kst_in
    case a2 => (intro p hp; kst_mem)
    case a3 => (intro p hp; cases hp)
    case a4 => (intro z h1 h2 h3; simp only [List.contains_cons, List.contains_nil, Bool.or_false, Bool.or_eq_false_iff, beq_eq_false_iff_ne, ne_eq] at h3; simp [kstB, h1, h3.1, h3.2])
    case a5 => exact ⟨ints_push hI1, hI2, hf8⟩
  · rw [hq9] at hf8
    rename News _ _ _ _ => N8
    (try simp only [List.push_toArray] at N8)
    unfold Stop
    refine' kst_end (((us9 ++ [.int p9 _]) ++ [.int v9 _], v9 :: p9 :: r9, k1 + 1), us2, ws, k2) (by assumption) N8 ?a1 ?a2 rfl trivial ?a3 ?a4 ?a5
    case a1 => kst_in
    case a2 => (intro p hp; kst_mem)
    case a3 => (intro p hp; cases hp)
    case a4 => (intro z h1 h2 h3; simp only [List.contains_cons, List.contains_nil, Bool.or_false, Bool.or_eq_false_iff, beq_eq_false_iff_ne, ne_eq] at h3; simp [kstB, h1, h3.1, h3.2])
    case a5 => exact ⟨ints_push hI1, hI2, hf8⟩
  · have e8 := step_open (by assumption) hst
    rw [e8] at hf8
    rename n = 7 => hn7
    rw [← hn7] at hf8
    rename News _ _ _ _ => N8
    (try simp only [List.push_toArray] at N8)
    unfold Stop
    refine' kst_end ((us1, ps, k1), us2 ++ [.int n _], n :: ws, k2 + 1) (by assumption) N8 ?a1 ?a2 rfl trivial ?a3 ?a4 ?a5
    case a1 => kst_in
    case a2 => (intro p hp; kst_mem)
    case a3 => (intro p hp; cases hp)
    case a4 => (intro z h1 h2 h3; simp only [List.contains_cons, List.contains_nil, Bool.or_false, Bool.or_eq_false_iff, beq_eq_false_iff_ne, ne_eq] at h3; simp [kstB, h1, h3.1, h3.2])
    case a5 => exact ⟨hI1, ints_push hI2, hf8⟩
  · have e8 := (hB9 (by assumption) (by assumption)).trans (reduce_nil hrd)
    rw [e8] at hf8
    rename News _ _ _ _ => N8
    (try simp only [List.push_toArray] at N8)
    unfold Stop
    refine' kst_end ((us1, ps, k1), us2, [], k2) (by assumption) N8 ?a1 ?a2 rfl trivial ?a3 ?a4 ?a5
    case a1 => kst_in
    case a2 => (intro p hp; kst_mem)
    case a3 => (intro p hp; cases hp)
    case a4 => (intro z h1 h2 h3; simp only [List.contains_cons, List.contains_nil, Bool.or_false, Bool.or_eq_false_iff, beq_eq_false_iff_ne, ne_eq] at h3; simp [kstB, h1, h3.1, h3.2])
    case a5 => exact ⟨hI1, hI2, hf8⟩
  · have e8 := hC9 (by assumption) (by assumption)
    have e5 := congrArg Prod.fst (reduce_nil hrd)
    have e6 := congrArg Prod.snd (reduce_nil hrd)
    dsimp only at e5 e6
    rw [e5, e6] at e8
    rw [e8] at hf8
    rename News _ _ _ _ => N8
    (try simp only [List.push_toArray] at N8)
    unfold Stop
    refine' kst_end ((us1, ps, k1), us2 ++ [.int n _], [n], k2 + 1) (by assumption) N8 ?a1 ?a2 rfl trivial ?a3 ?a4 ?a5
    case a1 => kst_in
    case a2 => (intro p hp; kst_mem)
    case a3 => (intro p hp; cases hp)
    case a4 => (intro z h1 h2 h3; simp only [List.contains_cons, List.contains_nil, Bool.or_false, Bool.or_eq_false_iff, beq_eq_false_iff_ne, ne_eq] at h3; simp [kstB, h1, h3.1, h3.2])
    case a5 => exact ⟨hI1, ints_push hI2, hf8⟩
  · subst hv8
    rename News _ _ _ _ => N8
    (try simp only [List.push_toArray] at N8)
    unfold Stop
    refine' ksw_end ((us6 ++ [.int _ _], _ :: ps8, k1 + 1 + 1 + 1), us2, ws, k2 + 1) (by assumption) N8 ?b1 trivial ?b2 ?b3 ⟨?b5, hJ2, ⟨?b6, ?b7⟩, hrd8⟩ ?b4
    case b5 => exact ints_push hI6
    case b1 => kst_in
    case b2 => (intro p hp; cases hp)
    case b3 => (intro z h2 h3; simp only [List.contains_cons, List.contains_nil, Bool.or_false, Bool.or_eq_false_iff, beq_eq_false_iff_ne, ne_eq] at h3; simp [kstB, h3.1, h3.2])
    case b4 => (simp only [List.length_cons]; omega)
    case b6 => (simp only [List.length_cons]; omega)
    case b7 => (dsimp only; omega)
  · subst hv8
    rename News _ _ _ _ => N8
    (try simp only [List.push_toArray] at N8)
    unfold Stop
    refine' ksw_end ((us6 ++ [.int _ _], _ :: ps8, k1 + 1 + 1 + 1), us2, ws, k2 + 1) (by assumption) N8 ?b1 trivial ?b2 ?b3 ⟨?b5, hJ2, ⟨?b6, ?b7⟩, hrd8⟩ ?b4
    case b5 => exact ints_push hI6
    case b1 => kst_in
    case b2 => (intro p hp; cases hp)
    case b3 => (intro z h2 h3; simp only [List.contains_cons, List.contains_nil, Bool.or_false, Bool.or_eq_false_iff, beq_eq_false_iff_ne, ne_eq] at h3; simp [kstB, h3.1, h3.2])
    case b4 => (simp only [List.length_cons]; omega)
    case b6 => (simp only [List.length_cons]; omega)
    case b7 => (dsimp only; omega)
  · subst hv8
    rename News _ _ _ _ => N8
    (try simp only [List.push_toArray] at N8)
    unfold Stop
    refine' ksw_end ((us6 ++ [.int _ _], _ :: ps8, k1 + 1 + 1 + 1), us2, ws, k2 + 1) (by assumption) N8 ?b1 trivial ?b2 ?b3 ⟨?b5, hJ2, ⟨?b6, ?b7⟩, hrd8⟩ ?b4
    case b5 => exact ints_push hI6
    case b1 => kst_in
    case b2 => (intro p hp; cases hp)
    case b3 => (intro z h2 h3; simp only [List.contains_cons, List.contains_nil, Bool.or_false, Bool.or_eq_false_iff, beq_eq_false_iff_ne, ne_eq] at h3; simp [kstB, h3.1, h3.2])
    case b4 => (simp only [List.length_cons]; omega)
    case b6 => (simp only [List.length_cons]; omega)
    case b7 => (dsimp only; omega)
  · obtain ⟨x9, hx9, hy9⟩ := hA9 (by assumption)
    have e5 := congrArg Prod.fst (reduce_stop hrw9 (by assumption) hrd)
    have e6 := congrArg Prod.snd (reduce_stop hrw9 (by assumption) hrd)
    dsimp only at e5 e6 hx9 hy9
    have e7 := (List.cons.inj (hx9.symm.trans e6)).2
    rw [hy9, e5, e7] at hf8
    rename News _ _ _ _ => N8
    (try simp only [List.push_toArray] at N8)
    unfold Stop
    refine' kst_end ((us1, ps, k1), us2, ws, k2 + 1) (by assumption) N8 ?a1 ?a2 rfl trivial ?a3 ?a4 ?a5
    case a1 => kst_in
    case a2 => (intro p hp; kst_mem)
    case a3 => (intro p hp; cases hp)
    case a4 => (intro z h1 h2 h3; simp only [List.contains_cons, List.contains_nil, Bool.or_false, Bool.or_eq_false_iff, beq_eq_false_iff_ne, ne_eq] at h3; simp [kstB, h1, h3.1, h3.2])
    case a5 => exact ⟨hI1, hJ2, hf8⟩
  · have e8 := (hB9 (by assumption) (by assumption)).trans (reduce_stop hrw9 (by assumption) hrd)
    rw [e8] at hf8
    rename News _ _ _ _ => N8
    (try simp only [List.push_toArray] at N8)
    unfold Stop
    refine' kst_end ((us1, ps, k1), us2 ++ [.int wt twt], wt :: ws, k2) (by assumption) N8 ?a1 ?a2 rfl trivial ?a3 ?a4 ?a5
    case a1 => kst_in
    case a2 => (intro p hp; kst_mem)
    case a3 => (intro p hp; cases hp)
    case a4 => (intro z h1 h2 h3; simp only [List.contains_cons, List.contains_nil, Bool.or_false, Bool.or_eq_false_iff, beq_eq_false_iff_ne, ne_eq] at h3; simp [kstB, h1, h3.1, h3.2])
    case a5 => exact ⟨hI1, hI2, hf8⟩
  · have e8 := hC9 (by assumption) (by assumption)
    have e5 := congrArg Prod.fst (reduce_stop hrw9 (by assumption) hrd)
    have e6 := congrArg Prod.snd (reduce_stop hrw9 (by assumption) hrd)
    dsimp only at e5 e6
    rw [e5, e6] at e8
    rw [e8] at hf8
    rename News _ _ _ _ => N8
    (try simp only [List.push_toArray] at N8)
    unfold Stop
    refine' kst_end ((us1, ps, k1), (us2 ++ [.int wt twt]) ++ [.int n _], n :: wt :: ws, k2 + 1) (by assumption) N8 ?a1 ?a2 rfl trivial ?a3 ?a4 ?a5
    case a1 => kst_in
    case a2 => (intro p hp; kst_mem)
    case a3 => (intro p hp; cases hp)
    case a4 => (intro z h1 h2 h3; simp only [List.contains_cons, List.contains_nil, Bool.or_false, Bool.or_eq_false_iff, beq_eq_false_iff_ne, ne_eq] at h3; simp [kstB, h1, h3.1, h3.2])
    case a5 => exact ⟨hI1, ints_push hI2, hf8⟩
end D
end SC11
section SC12
theorem nilC12 : True := by
  k_with_none
  w_top off
  trivial
/-- what a call of the def at f answers, where a generator may be left -/
noncomputable def SpecG (f : Addr) (vs : List Value) (d u : Nat) (Pre : Heap → Prop) (Post : Heap → Heap → Value → Prop) : Prop :=
  ∀ (w : World) (mean : ExcName → Option Value) (mg mb : Str → Option Value) (dp un : Nat) (gd : Option (List Code)) (cn : Str) (cs : Scope) (a : Addr) (ccd : Value) (cl : List (Str × Addr)) (outer : List Env)
    (A₀ : Around) (base h₀ : Heap) (L : Addr) (m : Str → Option Value) (s : Shared) (Q E : Value → Shared → Prop),
    Below A₀ base outer h₀ → Fr h₀ L s.heap m → (hd.heap_39 w.params).In h₀ → Top hd.view_39 LS mean mg mb h₀ → cs.kind = .function → dp + d < recursionLimit → un + u < cLine → Pre s.heap →
    (∀ v h' tk' G, s.heap.StaysIn h' → (AllBare s.gens → AllBare G) → Post s.heap h' v → Q v { s with heap := h', toks := tk', gens := G }) →
    wpAny (model PySem.Challenge.rw_wo0041_01.row.prog w) (ktrTop dp un gd cn cs L a ccd cl outer) (call (.ref f) vs) Q E s
section D
local macro_rules | `(tactic| walk_at "call builtin:len") => `(tactic| ((with_reducible show wpAny _ _ (call (Value.builtin "len") [Value.ref _]) _ _ _); k_dflt (first | k_extra "LENL" | refine Stop.go ?_)))
local macro_rules | `(tactic| walk_at "M call") => `(tactic| k_dflt (first | k_extra "GEN" | refine Stop.go ?_))
local macro_rules | `(tactic| walk_at "exec For Name Call cons nil") => `(tactic| (k_dflt (refine wpAny_For ?_ (fun _ => rfl))))
theorem told_spec (l : Addr) (vs : List Value) (ns ys : List Int) (hg : givP 9 ns none = some ys) : SpecG 142 [.ref l] 4 80 (fun h => h.IsList l vs.toArray ∧ IntsAre vs ns)
    (fun h h' v => ∃ a us n, v = .ref a ∧ h.get? a = none ∧ h'.get? a = some (listOf us n) ∧ IntsAre us.toList ys) := by
  intro w mean mg mb dp un gd cn cs a ccd cl outer A₀ base h₀ L m s Q E B F X T hk hd hu hp hret
  k_dflt (refine' enter [(Str.ofString "row", .ref l)] B F X T rfl rfl hk ?k6 ?k7 ?k8 ?k9 ?kB ?_ ?c2 ?c3 ?c4 ?c5; (case k6 => k_is); (case k7 => k_is); (case k8 => ktr_room); (case k9 => exact BindsTo.of_eq rfl); (case c5 => decide); (case kB => exact locs rfl); (case c2 => exact rfl); (case c3 => exact rfl); (case c4 => exact rfl); k_whole; intro g L' h' tk' eg F' N' B' X' T'; (try dsimp only))
  (try rw [← eg] at hp); rw [← eg] at hret
  clear B F X T eg
  (try k_unmd)
  k_fold
  obtain ⟨hl, hi⟩ := hp
  k_with "GEN" => ((rename Fr _ _ _ _ => lF); (rename News _ _ _ _ => lN); (refine' gen_call lF lN X' T' hl (by assumption) ?r9 hg ?_; (case r9 => ktr_room)); intro c C oC og a0 h9 tk9 F9 N9 hG9 hNL9 hCa9 hnC9 hLC9 hseg9)
  k_with "LOOP" => (refine wpAny_pyIter_gen hG9 ?_; (have hd9 := hnC9 _ List.mem_cons_self); (refine' told_loop (L := L') (G₀ := s.gens) rfl rfl rfl rfl ?r8 F9 N9 (Top.nolimit T') hG9 ?g8 ?b8 hCa9 hd9 hLC9 (giv_len _ _ _ _ hg) hseg9 ?turn ?done); (case g8 => exact Array.getElem?_push_size ..); (case b8 => exact fun hx => AllBare.push hx rfl); (case r8 => ktr_room); clear F9 N9; (case' turn => (intro us kk y t oC' I oI u h tk G hI9 h9 hy9 hb9 hne9 F N; (try k_unmd); (try k_fold))); (case' done => (intro us kk u h tk G hI9 hb9 F N; (try k_unmd); (try k_fold))))
  k_with "LENL" => (refine len_at (k := us.length + 1) (by is_list) (by simp) (by omega) ?_)
  k_steps
  k_with_none
  · (try dsimp only)
    exact Back.ret F fun st => hret _ _ _ _ st hb9 ⟨_, _, _, rfl, News.fresh (h₀ := g) N (List.mem_cons_of_mem _ List.mem_cons_self), News.get N (List.mem_cons_of_mem _ List.mem_cons_self), hI9⟩
  · (try dsimp only)
    refine ⟨by rw [List.length_append, List.length_singleton]; omega, ?_⟩
    have hz := giv_len _ _ _ _ hg
    have hI10 : IntsAre (us ++ [.int y t]) ys := by
      have h10 := IntsAre.append hI9 (.cons y t .nil)
      have e10 : ys.take us.length ++ [y] = ys := by
        have h11 : ys.take (us.length + 1) = ys.take us.length ++ [y] := by rw [List.take_add_one, hy9]; rfl
        rw [← h11]
        exact List.take_of_length_le (by omega)
      rw [e10] at h10
      exact h10
    k_steps
    rename Fr _ _ _ _ => F8
    rename News _ _ _ _ => N8
    rw [List.push_toArray] at N8
    exact Back.ret F8 fun st => hret _ _ _ _ st hb9 ⟨_, _, _, rfl, News.fresh (h₀ := g) N8 (List.mem_cons_of_mem _ List.mem_cons_self), News.get N8 (List.mem_cons_of_mem _ List.mem_cons_self), hI10⟩
  · rename Fr _ _ _ _ => F8
    rename News _ _ _ _ => N8
    rw [List.push_toArray] at N8
    refine ⟨by rw [List.length_append, List.length_singleton]; omega, _, _, _, _, rfl, F8, ?_, N8⟩
    intro z hz
    simp [hz]
end D
end SC12
section SC13a
noncomputable def bndP (d1 : Int) : Int := 2 + Int.fmod d1 2
@[irreducible] noncomputable def againP (d1 b : Int) (ys : List Int) (p : Int) : Bool := decide (0 < Int.fmod (Int.fdiv d1 2) 3) && ((Int.fmod p b == 0) && anyEq ys (Int.fdiv p b))
@[irreducible] noncomputable def bitP (d0 p : Int) : Bool := Int.fmod (Int.fdiv (Int.fmod d0 63 + 1) (2 ^ (p - 1).toNat)) 2 == 1
noncomputable def bstepP (d0 d1 b : Int) (ys : List Int) (p : Int) : List Int := if (againP d1 b ys p || bitP d0 p) = true then ys ++ [p] else ys
@[irreducible] noncomputable def bddP (d0 d1 : Int) : List Int := (rangeKs 1 6).foldl (bstepP d0 d1 (bndP d1)) []
@[irreducible] noncomputable def plnF (b : Int) (ys : List Int) (p : Int) : Bool := !(Int.fmod p b == 0) || !(anyEq ys (Int.fdiv p b))
@[irreducible] noncomputable def freF (d2 : Int) (ys : List Int) (p : Int) : Bool := (anyEq ys p) != (p == Int.fmod d2 9 + 1)
theorem bnd_range (d1 : Int) : 2 ≤ bndP d1 ∧ bndP d1 ≤ 3 := by
  unfold bndP
  have h1 := fmod_lo d1 (show (0 : Int) < 2 by decide)
  have h2 := fmod_hi d1 (show (0 : Int) < 2 by decide)
  omega
theorem drawn_four (ns : List Int) : ∃ d0 d1 d2 d3, drawnP ns = [d0, d1, d2, d3] := by
  have h : (drawnP ns).length = 4 := by
    unfold drawnP drawnAt
    rw [List.length_append, List.length_map, List.length_take, List.length_drop]
    simp only [List.length_cons, List.length_nil]
    omega
  match hd : drawnP ns, h with
  | [a, b, c, d], _ => exact ⟨a, b, c, d, rfl⟩
end SC13a
section SL
local macro_rules | `(tactic| k_ne) => `(tactic| first | exact OffD.at (by assumption) (by k_memK) | exact Ne.symm (OffD.at (by assumption) (by k_memK)))
local macro_rules | `(tactic| walk_at "M call") => `(tactic| k_dflt (first | k_extra "UL" | refine Stop.go ?_))
local macro_rules | `(tactic| walk_at "subscriptTail Name Constant ref int") => `(tactic| k_dflt (first | k_extra "SUB" | refine Stop.go ?_))
local macro_rules | `(tactic| walk_at "exec Assign cons ListComp") => `(tactic| k_dflt (refine wpAny_Assign_Name ?_))
local macro_rules | `(tactic| walk_at "eval ListComp") => `(tactic| (k_here; k_dflt (first | ((with_reducible show wpAny _ _ (eval (Expr.ListComp _ [⟨Expr.Name _ _, _, [_], _⟩] _ _) _) _ _ _); refine LCt.ListComp_T (F₀ := by k_asm) (by with_unfolding_all rfl) (by decide) (by rfl) (by decide) (by rfl) ?_) | (refine LCg.ListComp_U (F₀ := by k_asm) (by with_unfolding_all rfl) (by decide) (by rfl) (by decide) (by rfl) ?_))))
local macro_rules | `(tactic| walk_at "subscriptTail Name BinOp ref int") => `(tactic| k_dflt (k_extra "SUBX"))
local macro_rules | `(tactic| walk_at "call type:int") => `(tactic| k_dflt (k_extra "INT"))
local macro_rules | `(tactic| walk_at "call builtin:min") => `(tactic| k_dflt (k_extra "MIN"))
local macro_rules | `(tactic| walk_at "subscriptTail Name Slice ref ref") => `(tactic| k_dflt (k_extra "SLI"))
local macro_rules | `(tactic| walk_at "binaryOp Mult int int") => `(tactic| k_dflt (k_extra "MUL"))
local macro_rules | `(tactic| walk_at "compareOp NotEq ref ref") => `(tactic| k_dflt (k_extra "NE"))
local macro_rules | `(tactic| walk_at "compareOp NotIn int ref") => `(tactic| k_dflt (k_extra "NI"))
local macro_rules | `(tactic| walk_at "compareOp In int ref") => `(tactic| k_dflt (k_extra "IN"))
local macro_rules | `(tactic| walk_at "execs cons") => `(tactic| (k_here; dsimp only; k_gentoks))
local macro_rules | `(tactic| walk_at "execs nil") => `(tactic| (k_here; dsimp only; k_gentoks))
local macro_rules | `(tactic| walk_at "CompSrcT") => `(tactic| k_dflt (first | k_extra "CST" | refine Stop.go ?_))
section SCA0
theorem nilCA0 : True := by
  k_with_none
  w_top off
  trivial
theorem move8 {g h : Heap} {L : Addr} {x a1 a2 a3 a4 a5 a6 a7 a8 : Addr × Obj} {rs : List (Addr × Obj)} (N : News g L h (x :: a8 :: a7 :: a6 :: a5 :: a4 :: a3 :: a2 :: a1 :: rs)) : News g L h (a8 :: a7 :: a6 :: a5 :: a4 :: a3 :: a2 :: a1 :: x :: rs) := by
  intro p hp
  refine N p ?_
  simp only [List.mem_cons] at hp ⊢
  rcases hp with e | e | e | e | e | e | e | e | e | e <;> simp [e]
theorem own_new {D L : Addr} {o o1 o2 o3 o4 o5 o6 o7 o8 : Obj} {rs : List (Addr × Obj)} (off : OffD D ((L + 1 + 1 + 1 + 1 + 1 + 1 + 1 + 1, o8) :: (L + 1 + 1 + 1 + 1 + 1 + 1 + 1, o7) :: (L + 1 + 1 + 1 + 1 + 1 + 1, o6) :: (L + 1 + 1 + 1 + 1 + 1, o5) :: (L + 1 + 1 + 1 + 1, o4) :: (L + 1 + 1 + 1, o3) :: (L + 1 + 1, o2) :: (L + 1, o1) :: rs)) (hrs : OwnOff rs [L + 1 + 1 + 1 + 1 + 1 + 1 + 1 + 1, L + 1 + 1 + 1 + 1 + 1 + 1 + 1, L + 1 + 1 + 1 + 1 + 1 + 1, L + 1 + 1 + 1 + 1 + 1, L + 1 + 1 + 1 + 1, L + 1 + 1 + 1, L + 1 + 1, L + 1]) : OwnOff ((D, o) :: rs) [L + 1 + 1 + 1 + 1 + 1 + 1 + 1 + 1, L + 1 + 1 + 1 + 1 + 1 + 1 + 1, L + 1 + 1 + 1 + 1 + 1 + 1, L + 1 + 1 + 1 + 1 + 1, L + 1 + 1 + 1 + 1, L + 1 + 1 + 1, L + 1 + 1, L + 1] := by
  intro p hp b hb
  rcases List.mem_cons.mp hp with rfl | hp
  · obtain ⟨h1, h2, h3, h4, h5, h6, h7, h8, _⟩ := off
    simp only [List.mem_cons, List.not_mem_nil, or_false] at hb
    rcases hb with e | e | e | e | e | e | e | e <;> subst e <;> exact Ne.symm (by assumption)
  · exact hrs p hp b hb
theorem offLt {D : Addr} {l : List (Addr × Obj)} (h : AllLt D l) : OffD D l := offD_of fun p hp => Nat.ne_of_lt (allLt_to h p hp)
theorem own_lt {D L : Addr} {o1 o2 o3 o4 o5 o6 o7 o8 : Obj} {rs : List (Addr × Obj)} (h : AllLt D ((L + 1 + 1 + 1 + 1 + 1 + 1 + 1 + 1, o8) :: (L + 1 + 1 + 1 + 1 + 1 + 1 + 1, o7) :: (L + 1 + 1 + 1 + 1 + 1 + 1, o6) :: (L + 1 + 1 + 1 + 1 + 1, o5) :: (L + 1 + 1 + 1 + 1, o4) :: (L + 1 + 1 + 1, o3) :: (L + 1 + 1, o2) :: (L + 1, o1) :: rs)) : OwnOff rs [D] := by
  intro p hp b hb
  rw [List.mem_singleton.mp hb]
  exact Nat.ne_of_lt (allLt_to h p (by simp only [List.mem_cons]; simp [hp]))
theorem isl8 {g h : Heap} {L D : Addr} {us : List Value} {n : Nat} {a1 a2 a3 a4 a5 a6 a7 a8 : Addr × Obj} {rs : List (Addr × Obj)} (N : News g L h (a8 :: a7 :: a6 :: a5 :: a4 :: a3 :: a2 :: a1 :: rs)) (hD : (D, listOf us.toArray n) ∈ rs) : h.IsList D us.toArray :=
  N.isList (List.mem_cons_of_mem _ (List.mem_cons_of_mem _ (List.mem_cons_of_mem _ (List.mem_cons_of_mem _ (List.mem_cons_of_mem _ (List.mem_cons_of_mem _ (List.mem_cons_of_mem _ (List.mem_cons_of_mem _ hD))))))))
theorem isl9 {g h : Heap} {L D : Addr} {us : List Value} {n : Nat} {a1 a2 a3 a4 a5 a6 a7 a8 a9 : Addr × Obj} {rs : List (Addr × Obj)} (N : News g L h (a8 :: a7 :: a6 :: a5 :: a4 :: a3 :: a2 :: a1 :: a9 :: rs)) (hD : (D, listOf us.toArray n) ∈ rs) : h.IsList D us.toArray :=
  isl8 N (List.mem_cons_of_mem _ hD)
theorem pow2_small {n : Nat} (h : n < 6) : (0 : Int) < 2 ^ n ∧ (2 : Int) ^ n ≤ 32 := by
  have : n = 0 ∨ n = 1 ∨ n = 2 ∨ n = 3 ∨ n = 4 ∨ n = 5 := enumN6 (by omega)
  rcases this with rfl | rfl | rfl | rfl | rfl | rfl <;> decide
theorem own_two {own own' : List (Addr × Obj)} {adr : List Addr} (h1 : OwnOff own adr) (h2 : OwnOff own' adr) : ∃ ow2, own ++ own' = ow2 ∧ OwnOff ow2 adr ∧ (∀ p ∈ own, p ∈ ow2) ∧ ∀ p ∈ own', p ∈ ow2 :=
  ⟨_, rfl, fun p hp => (List.mem_append.mp hp).elim (h1 p) (h2 p), fun _ hp => List.mem_append_left _ hp, fun _ hp => List.mem_append_right _ hp⟩
theorem own_cons {own : List (Addr × Obj)} {D : Addr} {adr : List Addr} (h1 : OwnOff own [D]) (h2 : OwnOff own adr) : OwnOff own (D :: adr) := fun p hp b hb =>
  (List.mem_cons.mp hb).elim (fun e => h1 p hp b (by rw [e]; exact List.mem_singleton_self _)) (h2 p hp b)
theorem fr_unat {h₀ h : Heap} {L : Addr} {m : Str → Option Value} {x : Str} {v : Value} (hv : m x = some v) (F : Fr h₀ L h (fun z => if z = x then some v else m z)) : Fr h₀ L h m := by
  have e : (fun z => if z = x then some v else m z) = m := by
    funext z
    by_cases h1 : z = x
    · rw [if_pos h1, h1]; exact hv.symm
    · rw [if_neg h1]
  exact e ▸ F
noncomputable abbrev lawA (P : Params) (dp un : Nat) (gd : Option (List Code)) (L fa : Addr) (cdv : Value) (outer : List Env) : Around := ktrTop dp un gd (Str.ofString "law") (lawP P).1.sc L fa cdv (cellsFrom (L + 1) (lawP P).1.sc.names []) outer
section D
section
variable {w : World} {mean : ExcName → Option Value} {mg mb : Str → Option Value} {dp un : Nat} {gd : Option (List Code)} {fa : Addr} {cdv : Value} {outer : List Env} {A₀ : Around} {base g : Heap} {L : Addr} {m : Str → Option Value} {s : Shared} {h : Heap} {tk : Nat} {Q : Flow → Shared → Prop} {E : Value → Shared → Prop}
  {o1 o2 o3 o4 o5 o6 o7 o8 : Obj} {rs : List (Addr × Obj)}
/-- drawn = .. -/
theorem st0 {l : Addr} {vs : List Value} {ns : List Int} {v1 : Option Value} (B' : Below A₀ base outer g) (X' : (hd.heap_39 w.params).In g) (T' : Top hd.view_39 LS mean mg mb g) (hd : dp + 20 < recursionLimit) (hu : un + 400 < cLine)
    (F : Fr g L h m) (N : News g L h ((L + 1 + 1 + 1 + 1 + 1 + 1 + 1 + 1, o8) :: (L + 1 + 1 + 1 + 1 + 1 + 1 + 1, o7) :: (L + 1 + 1 + 1 + 1 + 1 + 1, o6) :: (L + 1 + 1 + 1 + 1 + 1, o5) :: (L + 1 + 1 + 1 + 1, o4) :: (L + 1 + 1 + 1, o3) :: (L + 1 + 1, o2) :: (L + 1, o1) :: rs)) (hrs : OwnOff rs [L + 1 + 1 + 1 + 1 + 1 + 1 + 1 + 1, L + 1 + 1 + 1 + 1 + 1 + 1 + 1, L + 1 + 1 + 1 + 1 + 1 + 1, L + 1 + 1 + 1 + 1 + 1, L + 1 + 1 + 1 + 1, L + 1 + 1 + 1, L + 1 + 1, L + 1]) (d1 : o1.data = .cell v1) (hz : ns.length < 100000) (hm : m (Str.ofString "script") = some (.ref l)) (hl : g.IsList l vs.toArray) (hi : IntsAre vs ns)
    (hq : ∀ D us n h' tk' o1, Fr g L h' m → News g L h' ((L + 1 + 1 + 1 + 1 + 1 + 1 + 1 + 1, o8) :: (L + 1 + 1 + 1 + 1 + 1 + 1 + 1, o7) :: (L + 1 + 1 + 1 + 1 + 1 + 1, o6) :: (L + 1 + 1 + 1 + 1 + 1, o5) :: (L + 1 + 1 + 1 + 1, o4) :: (L + 1 + 1 + 1, o3) :: (L + 1 + 1, o2) :: (L + 1, o1) :: (D, listOf (List.toArray us) n) :: rs) → OwnOff ((D, listOf (List.toArray us) n) :: rs) [L + 1 + 1 + 1 + 1 + 1 + 1 + 1 + 1, L + 1 + 1 + 1 + 1 + 1 + 1 + 1, L + 1 + 1 + 1 + 1 + 1 + 1, L + 1 + 1 + 1 + 1 + 1, L + 1 + 1 + 1 + 1, L + 1 + 1 + 1, L + 1 + 1, L + 1] → o1.data = .cell (some (.ref D)) → IntsAre us (drawnP ns) → Q .next { s with heap := h', toks := tk' }) :
    wpAny (model PySem.Challenge.rw_wo0041_01.row.prog w) (lawA w.params dp un gd L fa cdv outer) (exec (lawP w.params).1.s0 (lawEnv w.params L fa cdv)) Q (fun _ _ => False) { s with heap := h, toks := tk } := by
  replace F := fr_at hm F
  k_with "UL" => ((rename Fr _ _ _ _ => lF); (rename News _ _ _ _ => lN); refine' useL (drawn_spec l vs ns hz) B' lF X' T' lN rfl ?u1 ?u2 ⟨hl.at (fun o e => lF.keep _ o e), hi⟩ ?_; (case u1 => omega); (case u2 => omega); intro D us n h tk F N off1 ne1 hI; clear lF lN; (try k_fold))
  unfold lawA lawEnv lawP
  dsimp only
  k_steps
  k_with_none
  rename Fr _ _ _ _ => F2
  rename News _ _ _ _ => N2
  exact hq D us n _ _ _ (fr_unat hm F2) (move8 N2) (own_new off1 hrs) (by assumption) hI
/-- bound = 2 + drawn[1] % 2 -/
theorem st1 {D : Addr} {us : List Value} {n : Nat} {d0 da db dc : Int} {v2 : Option Value} (B' : Below A₀ base outer g) (X' : (hd.heap_39 w.params).In g) (T' : Top hd.view_39 LS mean mg mb g)
    (F : Fr g L h m) (N : News g L h ((L + 1 + 1 + 1 + 1 + 1 + 1 + 1 + 1, o8) :: (L + 1 + 1 + 1 + 1 + 1 + 1 + 1, o7) :: (L + 1 + 1 + 1 + 1 + 1 + 1, o6) :: (L + 1 + 1 + 1 + 1 + 1, o5) :: (L + 1 + 1 + 1 + 1, o4) :: (L + 1 + 1 + 1, o3) :: (L + 1 + 1, o2) :: (L + 1, o1) :: rs)) (hrs : OwnOff rs [L + 1 + 1 + 1 + 1 + 1 + 1 + 1 + 1, L + 1 + 1 + 1 + 1 + 1 + 1 + 1, L + 1 + 1 + 1 + 1 + 1 + 1, L + 1 + 1 + 1 + 1 + 1, L + 1 + 1 + 1 + 1, L + 1 + 1 + 1, L + 1 + 1, L + 1]) (d1 : o1.data = .cell (some (.ref D))) (d2 : o2.data = .cell v2) (hD : (D, listOf us.toArray n) ∈ rs) (hI : IntsAre us [d0, da, db, dc])
    (hq : ∀ h' tk' o2 t, Fr g L h' m → News g L h' ((L + 1 + 1 + 1 + 1 + 1 + 1 + 1 + 1, o8) :: (L + 1 + 1 + 1 + 1 + 1 + 1 + 1, o7) :: (L + 1 + 1 + 1 + 1 + 1 + 1, o6) :: (L + 1 + 1 + 1 + 1 + 1, o5) :: (L + 1 + 1 + 1 + 1, o4) :: (L + 1 + 1 + 1, o3) :: (L + 1 + 1, o2) :: (L + 1, o1) :: rs) → o2.data = .cell (some (.int (bndP da) t)) → Q .next { s with heap := h', toks := tk' }) :
    wpAny (model PySem.Challenge.rw_wo0041_01.row.prog w) (lawA w.params dp un gd L fa cdv outer) (exec (lawP w.params).1.s1 (lawEnv w.params L fa cdv)) Q (fun _ _ => False) { s with heap := h, toks := tk } := by
  k_with "SUB" => (refine item_intAt (ns := [d0, da, db, dc]) (isl8 (by assumption) hD) hI (by decide) (by rfl) (by decide) ?_; intro t9)
  unfold lawA lawEnv lawP
  dsimp only
  k_steps
  k_with_none
  exact hq _ _ _ _ (by assumption) (by assumption) (by assumption)
/-- bounded = [] -/
theorem st2 {v3 : Option Value} (B' : Below A₀ base outer g) (X' : (hd.heap_39 w.params).In g) (T' : Top hd.view_39 LS mean mg mb g)
    (F : Fr g L h m) (N : News g L h ((L + 1 + 1 + 1 + 1 + 1 + 1 + 1 + 1, o8) :: (L + 1 + 1 + 1 + 1 + 1 + 1 + 1, o7) :: (L + 1 + 1 + 1 + 1 + 1 + 1, o6) :: (L + 1 + 1 + 1 + 1 + 1, o5) :: (L + 1 + 1 + 1 + 1, o4) :: (L + 1 + 1 + 1, o3) :: (L + 1 + 1, o2) :: (L + 1, o1) :: rs)) (hrs : OwnOff rs [L + 1 + 1 + 1 + 1 + 1 + 1 + 1 + 1, L + 1 + 1 + 1 + 1 + 1 + 1 + 1, L + 1 + 1 + 1 + 1 + 1 + 1, L + 1 + 1 + 1 + 1 + 1, L + 1 + 1 + 1 + 1, L + 1 + 1 + 1, L + 1 + 1, L + 1]) (d3 : o3.data = .cell v3)
    (hq : ∀ D h' tk' o3, Fr g L h' m → News g L h' ((L + 1 + 1 + 1 + 1 + 1 + 1 + 1 + 1, o8) :: (L + 1 + 1 + 1 + 1 + 1 + 1 + 1, o7) :: (L + 1 + 1 + 1 + 1 + 1 + 1, o6) :: (L + 1 + 1 + 1 + 1 + 1, o5) :: (L + 1 + 1 + 1 + 1, o4) :: (L + 1 + 1 + 1, o3) :: (L + 1 + 1, o2) :: (L + 1, o1) :: (D, listOf #[] 0) :: rs) → OwnOff ((D, listOf #[] 0) :: rs) [L + 1 + 1 + 1 + 1 + 1 + 1 + 1 + 1, L + 1 + 1 + 1 + 1 + 1 + 1 + 1, L + 1 + 1 + 1 + 1 + 1 + 1, L + 1 + 1 + 1 + 1 + 1, L + 1 + 1 + 1 + 1, L + 1 + 1 + 1, L + 1 + 1, L + 1] → OwnOff rs [D] → o3.data = .cell (some (.ref D)) → Q .next { s with heap := h', toks := tk' }) :
    wpAny (model PySem.Challenge.rw_wo0041_01.row.prog w) (lawA w.params dp un gd L fa cdv outer) (exec (lawP w.params).1.s2 (lawEnv w.params L fa cdv)) Q (fun _ _ => False) { s with heap := h, toks := tk } := by
  unfold lawA lawEnv lawP
  dsimp only
  k_steps
  rename _ ∧ _ => l1
  rename News _ _ _ _ => N2
  have l2 : AllLt _ ((L + 1 + 1 + 1 + 1 + 1 + 1 + 1 + 1, o8) :: (L + 1 + 1 + 1 + 1 + 1 + 1 + 1, o7) :: (L + 1 + 1 + 1 + 1 + 1 + 1, o6) :: (L + 1 + 1 + 1 + 1 + 1, o5) :: (L + 1 + 1 + 1 + 1, o4) :: (L + 1 + 1 + 1, o3) :: (L + 1 + 1, o2) :: (L + 1, o1) :: rs) := l1
  exact hq _ _ _ _ (by assumption) (move8 N2) (own_new (offLt l2) hrs) (own_lt l2) (by assumption)
end
end D
end SCA0
section SCA1
local macro_rules | `(tactic| walk_at "zz0") => `(tactic| skip)
theorem nilCA1 : True := by
  k_with_none
  w_top off
  trivial
/-- a fact that the arithmetic is not to look at -/
noncomputable def Hid (p : Prop) : Prop := p
section D
section
variable {w : World} {mean : ExcName → Option Value} {mg mb : Str → Option Value} {dp un : Nat} {gd : Option (List Code)} {fa : Addr} {cdv : Value} {outer : List Env} {A₀ : Around} {base g : Heap} {L : Addr} {m : Str → Option Value} {s : Shared} {h : Heap} {tk : Nat} {Q : Flow → Shared → Prop} {E : Value → Shared → Prop}
  {o1 o2 o3 o4 o5 o6 o7 o8 : Obj} {rs : List (Addr × Obj)}
local macro_rules | `(tactic| walk_at "binaryOp FloorDiv int int") => `(tactic| (k_dflt (k_extra "FDIV")))
theorem fd_hide {prog : Program} {w : World} {A : Around} {E : Value → Shared → Prop} {s : Shared} {a b : Int} {t u : Tok} {Q : Value → Shared → Prop} (hb : b ≠ 0) (hp : Builtin.divisionGoesByPylong a b = false) (h : ∀ q, Hid (q = a.fdiv b) → Q (.int q s.toks) { s with toks := s.toks + 1 }) :
    wpAny (model prog w) A (binaryOp .FloorDiv (.int a t) (.int b u)) Q E s := floordiv_int hb (h _ rfl) (Or.inl hp)
theorem pow_hide {prog : Program} {w : World} {A : Around} {E : Value → Shared → Prop} {s : Shared} {n : Int} {t u : Tok} {Q : Value → Shared → Prop} (h0 : 0 ≤ n) (h1 : n < 6) (h : ∀ q : Int, Hid (q = 2 ^ n.toNat) → 0 < q → q ≤ 32 → Q (.int q s.toks) { s with toks := s.toks + 1 }) :
    wpAny (model prog w) A (binaryOp .Pow (.int 2 t) (.int n u)) Q E s := by
  have hp := pow2_small (n := n.toNat) (by omega)
  exact pow_int_small h0 (by omega) (by decide) (h _ rfl hp.1 hp.2)
theorem led_sub {L D : Addr} {oD : Obj} {rw9 : List (Addr × Obj)} (h : ∀ p ∈ rs, p ∈ rw9) : ∀ p ∈ ((L + 1 + 1 + 1 + 1 + 1 + 1 + 1 + 1, o8) :: (L + 1 + 1 + 1 + 1 + 1 + 1 + 1, o7) :: (L + 1 + 1 + 1 + 1 + 1 + 1, o6) :: (L + 1 + 1 + 1 + 1 + 1, o5) :: (L + 1 + 1 + 1 + 1, o4) :: (L + 1 + 1 + 1, o3) :: (L + 1 + 1, o2) :: (L + 1, o1) :: (D, oD) :: rs), p ∈ ((L + 1 + 1 + 1 + 1 + 1 + 1 + 1 + 1, o8) :: (L + 1 + 1 + 1 + 1 + 1 + 1 + 1, o7) :: (L + 1 + 1 + 1 + 1 + 1 + 1, o6) :: (L + 1 + 1 + 1 + 1 + 1, o5) :: (L + 1 + 1 + 1 + 1, o4) :: (L + 1 + 1 + 1, o3) :: (L + 1 + 1, o2) :: (L + 1, o1) :: (D, oD) :: rw9) := by
  intro p hp
  simp only [List.mem_cons] at hp ⊢
  rcases hp with e | e | e | e | e | e | e | e | e | e
  · simp [e]
  · simp [e]
  · simp [e]
  · simp [e]
  · simp [e]
  · simp [e]
  · simp [e]
  · simp [e]
  · simp [e]
  · simp [h p e]
theorem led_own {L D : Addr} {oD : Obj} {rw9 own : List (Addr × Obj)} (h : ∀ p ∈ own, p ∈ rw9) : ∀ p ∈ own, p ∈ ((L + 1 + 1 + 1 + 1 + 1 + 1 + 1 + 1, o8) :: (L + 1 + 1 + 1 + 1 + 1 + 1 + 1, o7) :: (L + 1 + 1 + 1 + 1 + 1 + 1, o6) :: (L + 1 + 1 + 1 + 1 + 1, o5) :: (L + 1 + 1 + 1 + 1, o4) :: (L + 1 + 1 + 1, o3) :: (L + 1 + 1, o2) :: (L + 1, o1) :: (D, oD) :: rw9) := fun p hp => by
  iterate 9 refine List.mem_cons_of_mem _ ?_
  exact h p hp
theorem ag_t {d1 b p : Int} {ys : List Int} (h1 : 0 < Int.fmod (Int.fdiv d1 2) 3) (h2 : Int.fmod p b = 0) (h3 : (ys.any fun x => x == Int.fdiv p b) = true) : againP d1 b ys p = true := by
  unfold againP anyEq
  rw [decide_eq_true h1, h2, h3]; rfl
theorem ag_1 {d1 b p : Int} {ys : List Int} (h1 : ¬ 0 < Int.fmod (Int.fdiv d1 2) 3) : againP d1 b ys p = false := by
  unfold againP anyEq
  rw [decide_eq_false h1, Bool.false_and]
theorem ag_2 {d1 b p : Int} {ys : List Int} (h2 : Int.fmod p b ≠ 0) : againP d1 b ys p = false := by
  unfold againP anyEq
  rw [beq_eq_false_iff_ne.mpr h2, Bool.false_and, Bool.and_false]
theorem ag_3 {d1 b p : Int} {ys : List Int} (h3 : (ys.any fun x => x == Int.fdiv p b) = false) : againP d1 b ys p = false := by
  unfold againP anyEq
  rw [h3, Bool.and_false, Bool.and_false]
theorem bit_eq {d0 p pw q : Int} (h1 : Hid (pw = 2 ^ (p - 1).toNat)) (h2 : Hid (q = Int.fdiv (Int.fmod d0 63 + 1) pw)) : bitP d0 p = (Int.fmod q 2 == 1) := by
  unfold Hid at h1 h2
  unfold bitP
  rw [h2, h1]
theorem bs_on {d0 d1 b p : Int} {ys pre : List Int} (h : ys = pre.foldl (bstepP d0 d1 b) []) (h1 : againP d1 b ys p = true ∨ bitP d0 p = true) : ys ++ [p] = (pre ++ [p]).foldl (bstepP d0 d1 b) [] := by
  rw [List.foldl_append, ← h, List.foldl_cons, List.foldl_nil]
  unfold bstepP
  rw [if_pos ((Bool.or_eq_true _ _).mpr h1)]
theorem bs_off {d0 d1 b p : Int} {ys pre : List Int} (h : ys = pre.foldl (bstepP d0 d1 b) []) (h1 : againP d1 b ys p = false) (h2 : bitP d0 p = false) : ys = (pre ++ [p]).foldl (bstepP d0 d1 b) [] := by
  rw [List.foldl_append, ← h, List.foldl_cons, List.foldl_nil]
  unfold bstepP
  rw [h1, h2]; rfl
theorem ints_snoc3 {us : List Value} {ys : List Int} (h : IntsAre us ys) (n : Int) (t : Tok) : IntsAre (us ++ [.int n t]) (ys ++ [n]) := IntsAre.append h (.cons _ _ .nil)
/-- for part in range(1, 7): .. -/
theorem st3 {D D1 : Addr} {us1 : List Value} {n1 : Nat} {d0 da db dc : Int} {tb : Tok} (B' : Below A₀ base outer g) (X' : (hd.heap_39 w.params).In g) (T' : Top hd.view_39 LS mean mg mb g)
    (F : Fr g L h m) (N : News g L h ((L + 1 + 1 + 1 + 1 + 1 + 1 + 1 + 1, o8) :: (L + 1 + 1 + 1 + 1 + 1 + 1 + 1, o7) :: (L + 1 + 1 + 1 + 1 + 1 + 1, o6) :: (L + 1 + 1 + 1 + 1 + 1, o5) :: (L + 1 + 1 + 1 + 1, o4) :: (L + 1 + 1 + 1, o3) :: (L + 1 + 1, o2) :: (L + 1, o1) :: (D, listOf #[] 0) :: rs)) (hrs : OwnOff ((D, listOf #[] 0) :: rs) [L + 1 + 1 + 1 + 1 + 1 + 1 + 1 + 1, L + 1 + 1 + 1 + 1 + 1 + 1 + 1, L + 1 + 1 + 1 + 1 + 1 + 1, L + 1 + 1 + 1 + 1 + 1, L + 1 + 1 + 1 + 1, L + 1 + 1 + 1, L + 1 + 1, L + 1]) (hD : OwnOff rs [D]) (d1 : o1.data = .cell (some (.ref D1))) (d2 : o2.data = .cell (some (.int (bndP da) tb))) (d3 : o3.data = .cell (some (.ref D))) (hD1 : (D1, listOf us1.toArray n1) ∈ rs) (hI : IntsAre us1 [d0, da, db, dc])
    (hq : ∀ us n h' tk' m', Fr g L h' m' → (∀ z, z ≠ Str.ofString "part" → z ≠ Str.ofString "again" → m' z = m z) → News g L h' ((L + 1 + 1 + 1 + 1 + 1 + 1 + 1 + 1, o8) :: (L + 1 + 1 + 1 + 1 + 1 + 1 + 1, o7) :: (L + 1 + 1 + 1 + 1 + 1 + 1, o6) :: (L + 1 + 1 + 1 + 1 + 1, o5) :: (L + 1 + 1 + 1 + 1, o4) :: (L + 1 + 1 + 1, o3) :: (L + 1 + 1, o2) :: (L + 1, o1) :: (D, listOf (List.toArray us) n) :: rs) → IntsAre us (bddP d0 da) → Q .next { s with heap := h', toks := tk' }) :
    wpAny (model PySem.Challenge.rw_wo0041_01.row.prog w) (lawA w.params dp un gd L fa cdv outer) (exec (lawP w.params).1.s3 (lawEnv w.params L fa cdv)) Q (fun _ _ => False) { s with heap := h, toks := tk } := by
  have hb9 := bnd_range da
  have hoc : OwnOff rs [L + 1 + 1 + 1 + 1 + 1 + 1 + 1 + 1, L + 1 + 1 + 1 + 1 + 1 + 1 + 1, L + 1 + 1 + 1 + 1 + 1 + 1, L + 1 + 1 + 1 + 1 + 1, L + 1 + 1 + 1 + 1, L + 1 + 1 + 1, L + 1 + 1, L + 1] := fun p hp => hrs p (List.mem_cons_of_mem _ hp)
  have hDc : OffD D ((L + 1 + 1 + 1 + 1 + 1 + 1 + 1 + 1, o8) :: (L + 1 + 1 + 1 + 1 + 1 + 1 + 1, o7) :: (L + 1 + 1 + 1 + 1 + 1 + 1, o6) :: (L + 1 + 1 + 1 + 1 + 1, o5) :: (L + 1 + 1 + 1 + 1, o4) :: (L + 1 + 1 + 1, o3) :: (L + 1 + 1, o2) :: (L + 1, o1) :: []) := by
    have hDc : ∀ b ∈ [L + 1 + 1 + 1 + 1 + 1 + 1 + 1 + 1, L + 1 + 1 + 1 + 1 + 1 + 1 + 1, L + 1 + 1 + 1 + 1 + 1 + 1, L + 1 + 1 + 1 + 1 + 1, L + 1 + 1 + 1 + 1, L + 1 + 1 + 1, L + 1 + 1, L + 1], @Ne Nat D b := fun b hb => hrs _ List.mem_cons_self b hb
    refine ⟨?_, ?_, ?_, ?_, ?_, ?_, ?_, ?_, trivial⟩ <;> exact Ne.symm (hDc _ (by simp))
  k_with "SUB" => (refine item_intAt (ns := [d0, da, db, dc]) (isl9 (by assumption) hD1') hI (by decide) (by rfl) (by decide) ?_; intro t9)
  k_with "LE" => (refine Stop.go ?_)
  k_with "POW" => (refine pow_hide (by omega) (by omega) ?_; intro pw9 hpw9 hpw8 hpw7)
  k_with "FDIV" => (refine fd_hide (b := pw9) (by omega) (PyProof.noPylong_small (by omega)) ?_; intro q9 hq9)
  k_with "LOOP" => ((rename Fr _ _ _ _ => lF); (rename News _ _ _ _ => lN); (rename IsRange _ _ _ _ _ _ _ _ => lR); (refine' kst_range (σ := List Value × List Int × Nat) (n := 6) (fun c => (L + 1 + 1 + 1 + 1 + 1 + 1 + 1 + 1, o8) :: (L + 1 + 1 + 1 + 1 + 1 + 1 + 1, o7) :: (L + 1 + 1 + 1 + 1 + 1 + 1, o6) :: (L + 1 + 1 + 1 + 1 + 1, o5) :: (L + 1 + 1 + 1 + 1, o4) :: (L + 1 + 1 + 1, o3) :: (L + 1 + 1, o2) :: (L + 1, o1) :: (D, listOf c.1.toArray c.2.2) :: rs) (fun _ => []) (fun _ => True) [Str.ofString "again"] (fun pre c => IntsAre c.1 c.2.1 ∧ c.2.1 = pre.foldl (bstepP d0 da (bndP da)) [] ∧ c.2.1.length ≤ pre.length) ([], [], 0) (by rfl) lR ?sm ?rs lF lN trivial ?kk ⟨.nil, rfl, Nat.le_refl _⟩ ?turn ?done); (case kk => (intro p hp; cases hp)); (case sm => exact small_one (by decide) (by decide) (by decide) (by decide)); (case rs => (rw [rangeSize_nat]; rfl)); clear lF lN; (case' turn => (rintro ⟨us3, ys3, k3⟩ pre k t u h tk own hk9 hlt9 ho _ ⟨hI3, hys3, hlen3⟩ F N; subst hk9; dsimp only at hI3 hys3 hlen3 F N; replace F : Fr g L h _ := F; replace N : News g L h ((L + 1 + 1 + 1 + 1 + 1 + 1 + 1 + 1, o8) :: (L + 1 + 1 + 1 + 1 + 1 + 1 + 1, o7) :: (L + 1 + 1 + 1 + 1 + 1 + 1, o6) :: (L + 1 + 1 + 1 + 1 + 1, o5) :: (L + 1 + 1 + 1 + 1, o4) :: (L + 1 + 1 + 1, o3) :: (L + 1 + 1, o2) :: (L + 1, o1) :: (D, listOf us3.toArray k3) :: (rs ++ own)) := N; obtain ⟨rw9, hrw9, hO9, hs1, hs2⟩ := own_two (adr := D :: [L + 1 + 1 + 1 + 1 + 1 + 1 + 1 + 1, L + 1 + 1 + 1 + 1 + 1 + 1 + 1, L + 1 + 1 + 1 + 1 + 1 + 1, L + 1 + 1 + 1 + 1 + 1, L + 1 + 1 + 1 + 1, L + 1 + 1 + 1, L + 1 + 1, L + 1]) (own_cons hD hoc) (fun p hp b hb => ho p hp b (by simp only [List.map_cons, List.mem_cons, List.not_mem_nil, or_false] at hb ⊢; rcases hb with e | e | e | e | e | e | e | e | e <;> simp [e])); rw [hrw9] at N; have hD1' := hs1 _ hD1; clear hrw9; (try k_unmd); (try k_fold))); (case' done => (rintro ⟨us3, ys3, k3⟩ u h tk _ ⟨hI3, hys3, hlen3⟩ F N; dsimp only at hI3 hys3 hlen3 F N; (try k_unmd); (try k_fold))))
  unfold lawA lawEnv lawP
  dsimp only
  k_steps
  k_with_none
  · exact hq us3 k3 _ _ _ F (fun z h1 h2 => by simp [kstB, h1, h2]) N (by rw [hys3] at hI3; unfold bddP; exact hI3)
  all_goals
    unfold Stop
    (try exact absurd ‹Int.fmod (1 + (pre.length : Int)) (bndP da) = 0› ‹Int.fmod (1 + (pre.length : Int)) (bndP da) ≠ 0›)
  all_goals
    (try have hag : againP da (bndP da) ys3 (1 + (pre.length : Int)) = true := ag_t (by assumption) (by assumption) (by assumption))
    (try have hag : againP da (bndP da) ys3 (1 + (pre.length : Int)) = false := by first | exact ag_1 (by assumption) | exact ag_2 (by assumption) | exact ag_3 (by assumption))
    (try have hbt : bitP d0 (1 + (pre.length : Int)) = true := (bit_eq hpw9 hq9).trans (beq_iff_eq.mpr (by assumption)))
    (try have hbt : bitP d0 (1 + (pre.length : Int)) = false := (bit_eq hpw9 hq9).trans (beq_eq_false_iff_ne.mpr (by assumption)))
    rename News _ _ _ _ => N9
    first
    | (have hbs := bs_on (p := 1 + (pre.length : Int)) hys3 (by first | exact .inl (by assumption) | exact .inr (by assumption))
       rw [List.push_toArray] at N9
       refine' kst_end (us3 ++ [.int (1 + (pre.length : Int)) t], ys3 ++ [1 + (pre.length : Int)], k3 + 1) (by assumption) N9 (led_sub hs1) (led_own hs2) rfl trivial ?c3 ?c4 ⟨ints_snoc3 hI3 _ _, hbs, ?c5⟩
       case c3 => (intro p hp; cases hp)
       case c4 => (intro z h1 h2 h3; simp only [List.contains_cons, List.contains_nil, Bool.or_false, beq_eq_false_iff_ne, ne_eq] at h3; simp [kstB, h1, h3])
       case c5 => (dsimp only; simp only [List.length_append, List.length_cons, List.length_nil]; omega))
    | (have hbs := bs_off (p := 1 + (pre.length : Int)) hys3 (by assumption) (by assumption)
       refine' kst_end (us3, ys3, k3) (by assumption) N9 (led_sub hs1) (led_own hs2) rfl trivial ?c3 ?c4 ⟨hI3, hbs, ?c5⟩
       case c3 => (intro p hp; cases hp)
       case c4 => (intro z h1 h2 h3; simp only [List.contains_cons, List.contains_nil, Bool.or_false, beq_eq_false_iff_ne, ne_eq] at h3; simp [kstB, h1, h3])
       case c5 => (dsimp only; simp only [List.length_append]; omega))
end
end D
end SCA1
section SCA2
theorem nilCA2 : True := by
  k_with_none
  w_top off
  trivial
theorem comp_listT {prog : Program} {w : World} {A : Around} {h₀ : Heap} {L : Addr} {m : Str → Option Value} {env : Env} {ct elt : Expr} {x : Str} {scope : Scope} {cl : List (Str × Addr)} {s : Shared} {S : List (Addr × Obj) → Prop} {Fin : List Value → List (Addr × Obj) → Prop} {news : List (Addr × Obj)}
    {vs : List Value} {ks : List Int} (p : Int → Bool) (R : Int → Value → Prop) (hi : IntsAre vs ks)
    (turn : ∀ k t I oI C oC D m₂ ys h tk (E' : Value → Shared → Prop), k ∈ ks → LCg.NsObj oC m₂ → m₂ x = some (.int k t) → Fr h₀ L h m → News h₀ L h ((I, oI) :: (C, oC) :: (D, LCg.lst ys) :: news) → LCg.Off3 I C D news → ((@Ne Nat I C) ∧ (@Ne Nat I D) ∧ (@Ne Nat C D)) →
      wpAny (model prog w) A (isTrue ct (compEnvC scope cl C env) (eval ct (compEnvC scope cl C env))) (fun ok s' => if ok = true then
        wpAny (model prog w) A (eval elt (compEnvC scope cl C env)) (LCg.CompEnd h₀ L m { s with heap := h, toks := tk } I oI C oC D (LCg.lst ys) S (fun y news' => news' = news ∧ (p k = true ∧ R k y))) E' s'
        else LCg.CompEnd h₀ L m { s with heap := h, toks := tk } I oI C oC D (LCg.lst ys) S (fun _ news' => news' = news ∧ p k = false) Value.none s') E' { s with heap := h, toks := tk })
    (fin : ∀ ys, Each R (ks.filter p) ys → Fin ys news) : LCt.CompRestT prog w A h₀ L m env ct elt x scope cl s S (fun i v => vs.toArray[i]? = some v) Fin vs.toArray.size 0 [] news :=
  comp_restT (ks := ks) p R (by rw [List.size_toArray]; exact hi.length.symm) (fun i v _ hv => by
    obtain ⟨k, t, e, hk⟩ := IntsAre.at hi i v (by simpa using hv)
    exact ⟨k, t, hk, e⟩) turn fin
section D
section
variable {w : World} {mean : ExcName → Option Value} {mg mb : Str → Option Value} {dp un : Nat} {gd : Option (List Code)} {fa : Addr} {cdv : Value} {outer : List Env} {A₀ : Around} {base g : Heap} {L : Addr} {m : Str → Option Value} {s : Shared} {h : Heap} {tk : Nat} {Q : Flow → Shared → Prop} {E : Value → Shared → Prop}
  {o1 o2 o3 o4 o5 o6 o7 o8 : Obj} {rs : List (Addr × Obj)}
theorem offD1 {D : Addr} : ∀ {l : List (Addr × Obj)}, LCg.Off1 D l → OffD D l
  | [], _ => trivial
  | _ :: _, h => ⟨h.1, offD1 h.2⟩
theorem srcLed {D : Addr} {us : List Value} {n : Nat} {h₀ : Heap} {news : List (Addr × Obj)} (h : (D, listOf us.toArray n) ∈ news) : LCg.SrcAt h₀ D us.toArray news := .inr ⟨_, h, rfl, _, rfl⟩
theorem pln_t1 {b p : Int} {ys : List Int} (h : Int.fmod p b ≠ 0) : plnF b ys p = true := by
  unfold plnF
  rw [beq_eq_false_iff_ne.mpr h]; rfl
theorem pln_2 {b p : Int} {ys : List Int} (h : Int.fmod p b = 0) : plnF b ys p = !(ys.any (· == Int.fdiv p b)) := by
  unfold plnF anyEq
  rw [beq_iff_eq.mpr h]; rfl
theorem each_ints {ks : List Int} {ys : List Value} (h : Each (fun k y => ∃ t, y = Value.int k t) ks ys) : IntsAre ys ks := by
  induction h with
  | nil => exact .nil
  | cons e _ ih => obtain ⟨t, rfl⟩ := e; exact .cons _ _ ih
theorem mem8 {L : Addr} {p : Addr × Obj} (h : p ∈ rs) : p ∈ ((L + 1 + 1 + 1 + 1 + 1 + 1 + 1 + 1, o8) :: (L + 1 + 1 + 1 + 1 + 1 + 1 + 1, o7) :: (L + 1 + 1 + 1 + 1 + 1 + 1, o6) :: (L + 1 + 1 + 1 + 1 + 1, o5) :: (L + 1 + 1 + 1 + 1, o4) :: (L + 1 + 1 + 1, o3) :: (L + 1 + 1, o2) :: (L + 1, o1) :: rs) := by
  iterate 8 refine List.mem_cons_of_mem _ ?_
  exact h
/-- plain = .. -/
theorem st4 {D : Addr} {us : List Value} {n : Nat} {b : Int} {ys : List Int} {tb : Tok} {v4 : Option Value} (B' : Below A₀ base outer g) (X' : (hd.heap_39 w.params).In g) (T' : Top hd.view_39 LS mean mg mb g)
    (F : Fr g L h m) (N : News g L h ((L + 1 + 1 + 1 + 1 + 1 + 1 + 1 + 1, o8) :: (L + 1 + 1 + 1 + 1 + 1 + 1 + 1, o7) :: (L + 1 + 1 + 1 + 1 + 1 + 1, o6) :: (L + 1 + 1 + 1 + 1 + 1, o5) :: (L + 1 + 1 + 1 + 1, o4) :: (L + 1 + 1 + 1, o3) :: (L + 1 + 1, o2) :: (L + 1, o1) :: rs)) (hrs : OwnOff rs [L + 1 + 1 + 1 + 1 + 1 + 1 + 1 + 1, L + 1 + 1 + 1 + 1 + 1 + 1 + 1, L + 1 + 1 + 1 + 1 + 1 + 1, L + 1 + 1 + 1 + 1 + 1, L + 1 + 1 + 1 + 1, L + 1 + 1 + 1, L + 1 + 1, L + 1]) (d2 : o2.data = .cell (some (.int b tb))) (d3 : o3.data = .cell (some (.ref D))) (d4 : o4.data = .cell v4) (hD : (D, listOf us.toArray n) ∈ rs) (hI : IntsAre us ys) (hb : 2 ≤ b ∧ b ≤ 3) (hl : ys.length ≤ 6)
    (hq : ∀ D4 us4 n4 h' tk' o4, Fr g L h' m → News g L h' ((L + 1 + 1 + 1 + 1 + 1 + 1 + 1 + 1, o8) :: (L + 1 + 1 + 1 + 1 + 1 + 1 + 1, o7) :: (L + 1 + 1 + 1 + 1 + 1 + 1, o6) :: (L + 1 + 1 + 1 + 1 + 1, o5) :: (L + 1 + 1 + 1 + 1, o4) :: (L + 1 + 1 + 1, o3) :: (L + 1 + 1, o2) :: (L + 1, o1) :: (D4, listOf (List.toArray us4) n4) :: rs) → OwnOff ((D4, listOf (List.toArray us4) n4) :: rs) [L + 1 + 1 + 1 + 1 + 1 + 1 + 1 + 1, L + 1 + 1 + 1 + 1 + 1 + 1 + 1, L + 1 + 1 + 1 + 1 + 1 + 1, L + 1 + 1 + 1 + 1 + 1, L + 1 + 1 + 1 + 1, L + 1 + 1 + 1, L + 1 + 1, L + 1] → o4.data = .cell (some (.ref D4)) → IntsAre us4 (ys.filter (plnF b ys)) → Q .next { s with heap := h', toks := tk' }) :
    wpAny (model PySem.Challenge.rw_wo0041_01.row.prog w) (lawA w.params dp un gd L fa cdv outer) (exec (lawP w.params).1.s4 (lawEnv w.params L fa cdv)) Q (fun _ _ => False) { s with heap := h, toks := tk } := by
  k_with "CST" => (refine LCt.CompSrcT.ledger (by rfl) (by k_asm) (by k_asm) (mem8 hD) (by rw [PySem.sizeLine_eq, List.size_toArray]; have := hI.length; omega) ?_; intro g'; refine' comp_listT (plnF b ys) (fun k y => ∃ t, y = Value.int k t) hI (fun k t I oI C oC D m₂ ys h tk E' hk hC hx F N off ne => ?_) ?_; (all_goals (try k_fold)))
  k_with "NI" => (refine notin_list_ints (News.isList (by assumption) (by kst_mem)) hI ?_)
  unfold lawA lawEnv lawP
  dsimp only
  k_steps
  k_with_none
  · exact LCg.CompEnd.intro (by assumption) (by assumption) _ (fun p hp => hp) off (srcLed (mem8 hD)) ⟨rfl, pln_t1 (by assumption), _, rfl⟩
  · exact LCg.CompEnd.intro (by assumption) (by assumption) _ (fun p hp => hp) off (srcLed (mem8 hD)) ⟨rfl, by rw [pln_2 (by assumption)]; first | assumption | (rw [Bool.not_eq_false']; assumption)⟩
  · exact LCg.CompEnd.intro (by assumption) (by assumption) _ (fun p hp => hp) off (srcLed (mem8 hD)) ⟨rfl, by rw [pln_2 (by assumption)]; first | assumption | (rw [Bool.not_eq_true']; assumption), _, rfl⟩
  · rename Each _ _ _ => hE
    rename News _ _ _ _ => N2
    rename _ ∧ _ => l1
    have l2 : LCg.Off1 _ ((L + 1 + 1 + 1 + 1 + 1 + 1 + 1 + 1, o8) :: (L + 1 + 1 + 1 + 1 + 1 + 1 + 1, o7) :: (L + 1 + 1 + 1 + 1 + 1 + 1, o6) :: (L + 1 + 1 + 1 + 1 + 1, o5) :: (L + 1 + 1 + 1 + 1, o4) :: (L + 1 + 1 + 1, o3) :: (L + 1 + 1, o2) :: (L + 1, o1) :: rs) := l1
    exact hq _ _ _ _ _ _ (by assumption) (move8 N2) (own_new (offD1 l2) hrs) (by assumption) (each_ints hE)
theorem comp_rangeT {prog : Program} {w : World} {A : Around} {h₀ : Heap} {L : Addr} {m : Str → Option Value} {env : Env} {ct elt : Expr} {x : Str} {scope : Scope} {cl : List (Str × Addr)} {s : Shared} {S : List (Addr × Obj) → Prop} {Fin : List Value → List (Addr × Obj) → Prop} {news : List (Addr × Obj)}
    {n : Nat} {a : Int} (p : Int → Bool) (R : Int → Value → Prop)
    (turn : ∀ k t I oI C oC D m₂ ys h tk (E' : Value → Shared → Prop), a ≤ k → k < a + (n : Int) → LCg.NsObj oC m₂ → m₂ x = some (.int k t) → Fr h₀ L h m → News h₀ L h ((I, oI) :: (C, oC) :: (D, LCg.lst ys) :: news) → LCg.Off3 I C D news → ((@Ne Nat I C) ∧ (@Ne Nat I D) ∧ (@Ne Nat C D)) →
      wpAny (model prog w) A (isTrue ct (compEnvC scope cl C env) (eval ct (compEnvC scope cl C env))) (fun ok s' => if ok = true then
        wpAny (model prog w) A (eval elt (compEnvC scope cl C env)) (LCg.CompEnd h₀ L m { s with heap := h, toks := tk } I oI C oC D (LCg.lst ys) S (fun y news' => news' = news ∧ (p k = true ∧ R k y))) E' s'
        else LCg.CompEnd h₀ L m { s with heap := h, toks := tk } I oI C oC D (LCg.lst ys) S (fun _ news' => news' = news ∧ p k = false) Value.none s') E' { s with heap := h, toks := tk })
    (fin : ∀ ys, Each R ((rangeKs a n).filter p) ys → Fin ys news) : LCt.CompRestT prog w A h₀ L m env ct elt x scope cl s S (fun i v => ∃ t, v = .int (a + (i : Int)) t) Fin n 0 [] news :=
  comp_restT (ks := rangeKs a n) p R (rangeKs_length a n) (fun i v hi hv => by
    obtain ⟨t, e⟩ := hv
    exact ⟨a + (i : Int), t, by simp [rangeKs, hi], e⟩)
    (fun k t I oI C oC D m₂ ys h tk E' hk hC hx F N off ne => turn k t I oI C oC D m₂ ys h tk E' (mem_rangeKs hk).1 (mem_rangeKs hk).2 hC hx F N off ne) fin
/-- free = .. -/
theorem st5 {D D1 : Addr} {us us1 : List Value} {n n1 : Nat} {d0 da db dc : Int} {ys : List Int} {v5 : Option Value} (B' : Below A₀ base outer g) (X' : (hd.heap_39 w.params).In g) (T' : Top hd.view_39 LS mean mg mb g)
    (F : Fr g L h m) (N : News g L h ((L + 1 + 1 + 1 + 1 + 1 + 1 + 1 + 1, o8) :: (L + 1 + 1 + 1 + 1 + 1 + 1 + 1, o7) :: (L + 1 + 1 + 1 + 1 + 1 + 1, o6) :: (L + 1 + 1 + 1 + 1 + 1, o5) :: (L + 1 + 1 + 1 + 1, o4) :: (L + 1 + 1 + 1, o3) :: (L + 1 + 1, o2) :: (L + 1, o1) :: rs)) (hrs : OwnOff rs [L + 1 + 1 + 1 + 1 + 1 + 1 + 1 + 1, L + 1 + 1 + 1 + 1 + 1 + 1 + 1, L + 1 + 1 + 1 + 1 + 1 + 1, L + 1 + 1 + 1 + 1 + 1, L + 1 + 1 + 1 + 1, L + 1 + 1 + 1, L + 1 + 1, L + 1]) (d1 : o1.data = .cell (some (.ref D1))) (d4 : o4.data = .cell (some (.ref D))) (d5 : o5.data = .cell v5) (hD1 : (D1, listOf us1.toArray n1) ∈ rs) (hI1 : IntsAre us1 [d0, da, db, dc])
    (hD : (D, listOf us.toArray n) ∈ rs) (hI : IntsAre us ys) (hl : ys.length ≤ 6)
    (hq : ∀ D5 us5 n5 h' tk' o5, Fr g L h' m → News g L h' ((L + 1 + 1 + 1 + 1 + 1 + 1 + 1 + 1, o8) :: (L + 1 + 1 + 1 + 1 + 1 + 1 + 1, o7) :: (L + 1 + 1 + 1 + 1 + 1 + 1, o6) :: (L + 1 + 1 + 1 + 1 + 1, o5) :: (L + 1 + 1 + 1 + 1, o4) :: (L + 1 + 1 + 1, o3) :: (L + 1 + 1, o2) :: (L + 1, o1) :: (D5, listOf (List.toArray us5) n5) :: rs) → OwnOff ((D5, listOf (List.toArray us5) n5) :: rs) [L + 1 + 1 + 1 + 1 + 1 + 1 + 1 + 1, L + 1 + 1 + 1 + 1 + 1 + 1 + 1, L + 1 + 1 + 1 + 1 + 1 + 1, L + 1 + 1 + 1 + 1 + 1, L + 1 + 1 + 1 + 1, L + 1 + 1 + 1, L + 1 + 1, L + 1] → o5.data = .cell (some (.ref D5)) → IntsAre us5 ((rangeKs 1 6).filter (freF db ys)) → Q .next { s with heap := h', toks := tk' }) :
    wpAny (model PySem.Challenge.rw_wo0041_01.row.prog w) (lawA w.params dp un gd L fa cdv outer) (exec (lawP w.params).1.s5 (lawEnv w.params L fa cdv)) Q (fun _ _ => False) { s with heap := h, toks := tk } := by
  k_with "CST" => (refine LCt.CompSrcT.range (by rfl) (by k_asm) (by k_asm) (by assumption) (small_one (by decide) (by decide) (by decide) (by decide)) (n := 6) (by rw [rangeSize_nat]; rfl) (by decide) ?_; intro g'; refine' comp_rangeT (freF db ys) (fun k y => ∃ t, y = Value.int k t) (fun k t I oI C oC D m₂ ys h tk E' hlo hhi hC hx F N off ne => ?_) ?_; (all_goals (try k_fold)))
  k_with "SUB" => (refine item_intAt (ns := [d0, da, db, dc]) (News.isList (by assumption) (by kst_mem)) hI1 (by decide) (by rfl) (by decide) ?_; intro t9)
  k_with "IN" => (refine in_list_ints (News.isList (by assumption) (by kst_mem)) hI ?_)
  unfold lawA lawEnv lawP
  dsimp only
  k_steps
  k_with_none
  · exact LCg.CompEnd.intro (by assumption) (by assumption) _ (fun p hp => hp) off trivial ⟨rfl, by unfold freF anyEq; assumption, _, rfl⟩
  · exact LCg.CompEnd.intro (by assumption) (by assumption) _ (fun p hp => hp) off trivial ⟨rfl, by unfold freF anyEq; assumption⟩
  · rename Each _ _ _ => hE
    rename News _ _ _ _ => N2
    rename _ ∧ _ => l1
    have l2 : LCg.Off1 _ ((L + 1 + 1 + 1 + 1 + 1 + 1 + 1 + 1, o8) :: (L + 1 + 1 + 1 + 1 + 1 + 1 + 1, o7) :: (L + 1 + 1 + 1 + 1 + 1 + 1, o6) :: (L + 1 + 1 + 1 + 1 + 1, o5) :: (L + 1 + 1 + 1 + 1, o4) :: (L + 1 + 1 + 1, o3) :: (L + 1 + 1, o2) :: (L + 1, o1) :: rs) := l1
    exact hq _ _ _ _ _ _ (by assumption) (move8 N2) (own_new (offD1 l2) hrs) (by assumption) (each_ints hE)
end
end D
end SCA2
section SCA3
theorem nilCA3 : True := by
  k_with_none
  w_top off
  trivial
theorem fr_unat2 {h₀ h : Heap} {L : Addr} {m : Str → Option Value} {x y : Str} {v u : Value} (hv : m x = some v) (hxy : x ≠ y) (F : Fr h₀ L h (fun z => if z = y then some u else if z = x then some v else m z)) : Fr h₀ L h (fun z => if z = y then some u else m z) := by
  have e : (fun z => if z = y then some u else if z = x then some v else m z) = (fun z => if z = y then some u else m z) := by
    funext z
    by_cases h1 : z = x
    · rw [h1, if_neg hxy, if_pos rfl, if_neg hxy, hv]
    · rw [if_neg h1]
  exact e ▸ F
section D
section
variable {w : World} {mean : ExcName → Option Value} {mg mb : Str → Option Value} {dp un : Nat} {gd : Option (List Code)} {fa : Addr} {cdv : Value} {outer : List Env} {A₀ : Around} {base g : Heap} {L : Addr} {m : Str → Option Value} {s : Shared} {h : Heap} {tk : Nat} {Q : Flow → Shared → Prop} {E : Value → Shared → Prop}
  {o1 o2 o3 o4 o5 o6 o7 o8 : Obj} {rs : List (Addr × Obj)}
theorem st6 {D1 : Addr} {us1 : List Value} {n1 : Nat} {d0 da db dc : Int} (B' : Below A₀ base outer g) (X' : (hd.heap_39 w.params).In g) (T' : Top hd.view_39 LS mean mg mb g)
    (F : Fr g L h m) (N : News g L h ((L + 1 + 1 + 1 + 1 + 1 + 1 + 1 + 1, o8) :: (L + 1 + 1 + 1 + 1 + 1 + 1 + 1, o7) :: (L + 1 + 1 + 1 + 1 + 1 + 1, o6) :: (L + 1 + 1 + 1 + 1 + 1, o5) :: (L + 1 + 1 + 1 + 1, o4) :: (L + 1 + 1 + 1, o3) :: (L + 1 + 1, o2) :: (L + 1, o1) :: rs)) (hrs : OwnOff rs [L + 1 + 1 + 1 + 1 + 1 + 1 + 1 + 1, L + 1 + 1 + 1 + 1 + 1 + 1 + 1, L + 1 + 1 + 1 + 1 + 1 + 1, L + 1 + 1 + 1 + 1 + 1, L + 1 + 1 + 1 + 1, L + 1 + 1 + 1, L + 1 + 1, L + 1]) (d1 : o1.data = .cell (some (.ref D1))) (hD1 : (D1, listOf us1.toArray n1) ∈ rs) (hI1 : IntsAre us1 [d0, da, db, dc])
    (hq : ∀ h' tk' t, Fr g L h' (fun z => if z = Str.ofString "width" then some (.int (4 + Int.fmod dc 3) t) else m z) → News g L h' ((L + 1 + 1 + 1 + 1 + 1 + 1 + 1 + 1, o8) :: (L + 1 + 1 + 1 + 1 + 1 + 1 + 1, o7) :: (L + 1 + 1 + 1 + 1 + 1 + 1, o6) :: (L + 1 + 1 + 1 + 1 + 1, o5) :: (L + 1 + 1 + 1 + 1, o4) :: (L + 1 + 1 + 1, o3) :: (L + 1 + 1, o2) :: (L + 1, o1) :: rs) → Q .next { s with heap := h', toks := tk' }) :
    wpAny (model PySem.Challenge.rw_wo0041_01.row.prog w) (lawA w.params dp un gd L fa cdv outer) (exec (lawP w.params).1.s6 (lawEnv w.params L fa cdv)) Q (fun _ _ => False) { s with heap := h, toks := tk } := by
  k_with "SUB" => (refine item_intAt (ns := [d0, da, db, dc]) (News.isList (by assumption) (by kst_mem)) hI1 (by decide) (by rfl) (by decide) ?_; intro t9)
  unfold lawA lawEnv lawP
  dsimp only
  k_steps
  k_with_none
  exact hq _ _ _ (by assumption) (by assumption)
theorem st7 {D1 : Addr} {us1 : List Value} {n1 : Nat} {d0 da db dc : Int} (B' : Below A₀ base outer g) (X' : (hd.heap_39 w.params).In g) (T' : Top hd.view_39 LS mean mg mb g)
    (F : Fr g L h m) (N : News g L h ((L + 1 + 1 + 1 + 1 + 1 + 1 + 1 + 1, o8) :: (L + 1 + 1 + 1 + 1 + 1 + 1 + 1, o7) :: (L + 1 + 1 + 1 + 1 + 1 + 1, o6) :: (L + 1 + 1 + 1 + 1 + 1, o5) :: (L + 1 + 1 + 1 + 1, o4) :: (L + 1 + 1 + 1, o3) :: (L + 1 + 1, o2) :: (L + 1, o1) :: rs)) (hrs : OwnOff rs [L + 1 + 1 + 1 + 1 + 1 + 1 + 1 + 1, L + 1 + 1 + 1 + 1 + 1 + 1 + 1, L + 1 + 1 + 1 + 1 + 1 + 1, L + 1 + 1 + 1 + 1 + 1, L + 1 + 1 + 1 + 1, L + 1 + 1 + 1, L + 1 + 1, L + 1]) (d1 : o1.data = .cell (some (.ref D1))) (hD1 : (D1, listOf us1.toArray n1) ∈ rs) (hI1 : IntsAre us1 [d0, da, db, dc])
    (hq : ∀ h' tk' t, Fr g L h' (fun z => if z = Str.ofString "kind" then some (.int (Int.fmod (Int.fdiv dc 3) 4) t) else m z) → News g L h' ((L + 1 + 1 + 1 + 1 + 1 + 1 + 1 + 1, o8) :: (L + 1 + 1 + 1 + 1 + 1 + 1 + 1, o7) :: (L + 1 + 1 + 1 + 1 + 1 + 1, o6) :: (L + 1 + 1 + 1 + 1 + 1, o5) :: (L + 1 + 1 + 1 + 1, o4) :: (L + 1 + 1 + 1, o3) :: (L + 1 + 1, o2) :: (L + 1, o1) :: rs) → Q .next { s with heap := h', toks := tk' }) :
    wpAny (model PySem.Challenge.rw_wo0041_01.row.prog w) (lawA w.params dp un gd L fa cdv outer) (exec (lawP w.params).1.s7 (lawEnv w.params L fa cdv)) Q (fun _ _ => False) { s with heap := h, toks := tk } := by
  k_with "SUB" => (refine item_intAt (ns := [d0, da, db, dc]) (News.isList (by assumption) (by kst_mem)) hI1 (by decide) (by rfl) (by decide) ?_; intro t9)
  unfold lawA lawEnv lawP
  dsimp only
  k_steps
  k_with_none
  exact hq _ _ _ (by assumption) (by assumption)
theorem st8 {D1 : Addr} {us1 : List Value} {n1 : Nat} {d0 da db dc : Int} (B' : Below A₀ base outer g) (X' : (hd.heap_39 w.params).In g) (T' : Top hd.view_39 LS mean mg mb g)
    (F : Fr g L h m) (N : News g L h ((L + 1 + 1 + 1 + 1 + 1 + 1 + 1 + 1, o8) :: (L + 1 + 1 + 1 + 1 + 1 + 1 + 1, o7) :: (L + 1 + 1 + 1 + 1 + 1 + 1, o6) :: (L + 1 + 1 + 1 + 1 + 1, o5) :: (L + 1 + 1 + 1 + 1, o4) :: (L + 1 + 1 + 1, o3) :: (L + 1 + 1, o2) :: (L + 1, o1) :: rs)) (hrs : OwnOff rs [L + 1 + 1 + 1 + 1 + 1 + 1 + 1 + 1, L + 1 + 1 + 1 + 1 + 1 + 1 + 1, L + 1 + 1 + 1 + 1 + 1 + 1, L + 1 + 1 + 1 + 1 + 1, L + 1 + 1 + 1 + 1, L + 1 + 1 + 1, L + 1 + 1, L + 1]) (d1 : o1.data = .cell (some (.ref D1))) (hD1 : (D1, listOf us1.toArray n1) ∈ rs) (hI1 : IntsAre us1 [d0, da, db, dc])
    (hq : ∀ h' tk' t, Fr g L h' (fun z => if z = Str.ofString "front" then some (.int (1 + Int.fmod (Int.fdiv dc 12) 9) t) else m z) → News g L h' ((L + 1 + 1 + 1 + 1 + 1 + 1 + 1 + 1, o8) :: (L + 1 + 1 + 1 + 1 + 1 + 1 + 1, o7) :: (L + 1 + 1 + 1 + 1 + 1 + 1, o6) :: (L + 1 + 1 + 1 + 1 + 1, o5) :: (L + 1 + 1 + 1 + 1, o4) :: (L + 1 + 1 + 1, o3) :: (L + 1 + 1, o2) :: (L + 1, o1) :: rs) → Q .next { s with heap := h', toks := tk' }) :
    wpAny (model PySem.Challenge.rw_wo0041_01.row.prog w) (lawA w.params dp un gd L fa cdv outer) (exec (lawP w.params).1.s8 (lawEnv w.params L fa cdv)) Q (fun _ _ => False) { s with heap := h, toks := tk } := by
  k_with "SUB" => (refine item_intAt (ns := [d0, da, db, dc]) (News.isList (by assumption) (by kst_mem)) hI1 (by decide) (by rfl) (by decide) ?_; intro t9)
  unfold lawA lawEnv lawP
  dsimp only
  k_steps
  k_with_none
  exact hq _ _ _ (by assumption) (by assumption)
theorem st12 {wv : Int} {tw : Tok} (B' : Below A₀ base outer g) (X' : (hd.heap_39 w.params).In g) (T' : Top hd.view_39 LS mean mg mb g)
    (F : Fr g L h m) (N : News g L h ((L + 1 + 1 + 1 + 1 + 1 + 1 + 1 + 1, o8) :: (L + 1 + 1 + 1 + 1 + 1 + 1 + 1, o7) :: (L + 1 + 1 + 1 + 1 + 1 + 1, o6) :: (L + 1 + 1 + 1 + 1 + 1, o5) :: (L + 1 + 1 + 1 + 1, o4) :: (L + 1 + 1 + 1, o3) :: (L + 1 + 1, o2) :: (L + 1, o1) :: rs)) (hw : m (Str.ofString "width") = some (.int wv tw)) (hw0 : 4 ≤ wv) (hw1 : wv ≤ 6)
    (hq : ∀ h' tk' t, Fr g L h' (fun z => if z = Str.ofString "unit" then some (.int (10 ^ wv.toNat) t) else m z) → News g L h' ((L + 1 + 1 + 1 + 1 + 1 + 1 + 1 + 1, o8) :: (L + 1 + 1 + 1 + 1 + 1 + 1 + 1, o7) :: (L + 1 + 1 + 1 + 1 + 1 + 1, o6) :: (L + 1 + 1 + 1 + 1 + 1, o5) :: (L + 1 + 1 + 1 + 1, o4) :: (L + 1 + 1 + 1, o3) :: (L + 1 + 1, o2) :: (L + 1, o1) :: rs) → Q .next { s with heap := h', toks := tk' }) :
    wpAny (model PySem.Challenge.rw_wo0041_01.row.prog w) (lawA w.params dp un gd L fa cdv outer) (exec (lawP w.params).1.s12 (lawEnv w.params L fa cdv)) Q (fun _ _ => False) { s with heap := h, toks := tk } := by
  replace F := fr_at hw F
  k_with "POW" => (refine pow_int_small (by omega) (by omega) (by decide) ?_)
  unfold lawA lawEnv lawP
  dsimp only
  k_steps
  k_with_none
  rename Fr _ _ _ _ => F2
  exact hq _ _ _ (fr_unat2 hw (by decide) F2) (by assumption)
end
end D
end SCA3
section SCA4
theorem nilCA4 : True := by
  k_with_none
  w_top off
  trivial
noncomputable def tailP (kd w : Int) : List Int := if kd = 0 then [w, 0, 3] else if kd = 1 then [w, w, w, 0] else if kd = 2 then [w, w, w, w, w, w, w, 127, 2] else [w, w, w, w, w, w, w]
theorem at1 {m : Str → Option Value} {x : Str} {v : Value} {f : Str → Option Value} (hf : f = m) (h : m x = some v) : (fun z => if z = x then some v else f z) = m := by
  funext z
  by_cases e : z = x
  · rw [if_pos e, e, h]
  · rw [if_neg e, hf]
theorem fr_rest {g h : Heap} {L : Addr} {M m : Str → Option Value} {y : Str} {r : Value} (eM : M = m) (F : Fr g L h (fun z => if z = y then some r else M z)) : Fr g L h (fun z => if z = y then some r else m z) := eM ▸ F
theorem fr_fwd {g h : Heap} {L : Addr} {M m : Str → Option Value} (eM : M = m) (F : Fr g L h m) : Fr g L h M := eM ▸ F
theorem fr_rev {g h : Heap} {L : Addr} {M m : Str → Option Value} (eM : M = m) (F : Fr g L h M) : Fr g L h m := eM ▸ F
theorem own_gt {D L : Addr} {o : Obj} {rs : List (Addr × Obj)} (h : @LT.lt Nat _ (L + 1 + 1 + 1 + 1 + 1 + 1 + 1 + 1) D) (hrs : OwnOff rs [L + 1 + 1 + 1 + 1 + 1 + 1 + 1 + 1, L + 1 + 1 + 1 + 1 + 1 + 1 + 1, L + 1 + 1 + 1 + 1 + 1 + 1, L + 1 + 1 + 1 + 1 + 1, L + 1 + 1 + 1 + 1, L + 1 + 1 + 1, L + 1 + 1, L + 1]) : OwnOff ((D, o) :: rs) [L + 1 + 1 + 1 + 1 + 1 + 1 + 1 + 1, L + 1 + 1 + 1 + 1 + 1 + 1 + 1, L + 1 + 1 + 1 + 1 + 1 + 1, L + 1 + 1 + 1 + 1 + 1, L + 1 + 1 + 1 + 1, L + 1 + 1 + 1, L + 1 + 1, L + 1] := by
  intro p hp b hb
  rcases List.mem_cons.mp hp with rfl | hp
  · simp only [List.mem_cons, List.not_mem_nil, or_false] at hb
    rcases hb with e | e | e | e | e | e | e | e <;> subst e <;> exact Nat.ne_of_gt (by omega)
  · exact hrs p hp b hb
section D
section
variable {w : World} {mean : ExcName → Option Value} {mg mb : Str → Option Value} {dp un : Nat} {gd : Option (List Code)} {fa : Addr} {cdv : Value} {outer : List Env} {A₀ : Around} {base g : Heap} {L : Addr} {m : Str → Option Value} {s : Shared} {h : Heap} {tk : Nat} {Q : Flow → Shared → Prop} {E : Value → Shared → Prop}
  {o1 o2 o3 o4 o5 o6 o7 o8 : Obj} {rs : List (Addr × Obj)}
theorem st9 {wv kd : Int} {tw tkd : Tok} (B' : Below A₀ base outer g) (X' : (hd.heap_39 w.params).In g) (T' : Top hd.view_39 LS mean mg mb g)
    (F : Fr g L h m) (N : News g L h ((L + 1 + 1 + 1 + 1 + 1 + 1 + 1 + 1, o8) :: (L + 1 + 1 + 1 + 1 + 1 + 1 + 1, o7) :: (L + 1 + 1 + 1 + 1 + 1 + 1, o6) :: (L + 1 + 1 + 1 + 1 + 1, o5) :: (L + 1 + 1 + 1 + 1, o4) :: (L + 1 + 1 + 1, o3) :: (L + 1 + 1, o2) :: (L + 1, o1) :: rs)) (hrs : OwnOff rs [L + 1 + 1 + 1 + 1 + 1 + 1 + 1 + 1, L + 1 + 1 + 1 + 1 + 1 + 1 + 1, L + 1 + 1 + 1 + 1 + 1 + 1, L + 1 + 1 + 1 + 1 + 1, L + 1 + 1 + 1 + 1, L + 1 + 1 + 1, L + 1 + 1, L + 1]) (hw : m (Str.ofString "width") = some (.int wv tw)) (hkd : m (Str.ofString "kind") = some (.int kd tkd)) (h4 : kd = 0 ∨ kd = 1 ∨ kd = 2 ∨ kd = 3)
    (hq : ∀ D us n h' tk', Fr g L h' (fun z => if z = Str.ofString "tail" then some (.ref D) else m z) → News g L h' ((L + 1 + 1 + 1 + 1 + 1 + 1 + 1 + 1, o8) :: (L + 1 + 1 + 1 + 1 + 1 + 1 + 1, o7) :: (L + 1 + 1 + 1 + 1 + 1 + 1, o6) :: (L + 1 + 1 + 1 + 1 + 1, o5) :: (L + 1 + 1 + 1 + 1, o4) :: (L + 1 + 1 + 1, o3) :: (L + 1 + 1, o2) :: (L + 1, o1) :: (D, listOf us n) :: rs) → OwnOff ((D, listOf us n) :: rs) [L + 1 + 1 + 1 + 1 + 1 + 1 + 1 + 1, L + 1 + 1 + 1 + 1 + 1 + 1 + 1, L + 1 + 1 + 1 + 1 + 1 + 1, L + 1 + 1 + 1 + 1 + 1, L + 1 + 1 + 1 + 1, L + 1 + 1 + 1, L + 1 + 1, L + 1] → IntsAre us.toList (tailP kd wv) → Q .next { s with heap := h', toks := tk' }) :
    wpAny (model PySem.Challenge.rw_wo0041_01.row.prog w) (lawA w.params dp un gd L fa cdv outer) (exec (lawP w.params).1.s9 (lawEnv w.params L fa cdv)) Q (fun _ _ => False) { s with heap := h, toks := tk } := by
  have eM := at1 (at1 rfl hkd) hw
  replace F := fr_fwd eM F
  (try dsimp only at F)
  rcases h4 with rfl | rfl | rfl | rfl
  · unfold lawA lawEnv lawP
    dsimp only
    k_steps
    rename Fr _ _ _ _ => F2
    rename News _ _ _ _ => N2
    refine hq _ _ _ _ _ (fr_rest eM F2) (fun p hp => N2 p ((show ∀ p ∈ (L + 1 + 1 + 1 + 1 + 1 + 1 + 1 + 1, o8) :: (L + 1 + 1 + 1 + 1 + 1 + 1 + 1, o7) :: (L + 1 + 1 + 1 + 1 + 1 + 1, o6) :: (L + 1 + 1 + 1 + 1 + 1, o5) :: (L + 1 + 1 + 1 + 1, o4) :: (L + 1 + 1 + 1, o3) :: (L + 1 + 1, o2) :: (L + 1, o1) :: (_, _) :: rs, _ by kst_in) p hp)) (own_gt (by omega) hrs) ?_
    exact .cons _ _ (.cons _ _ (.cons _ _ .nil))
  · unfold lawA lawEnv lawP
    dsimp only
    k_steps
    rename Fr _ _ _ _ => F2
    rename News _ _ _ _ => N2
    refine hq _ _ _ _ _ (fr_rest eM F2) (fun p hp => N2 p ((show ∀ p ∈ (L + 1 + 1 + 1 + 1 + 1 + 1 + 1 + 1, o8) :: (L + 1 + 1 + 1 + 1 + 1 + 1 + 1, o7) :: (L + 1 + 1 + 1 + 1 + 1 + 1, o6) :: (L + 1 + 1 + 1 + 1 + 1, o5) :: (L + 1 + 1 + 1 + 1, o4) :: (L + 1 + 1 + 1, o3) :: (L + 1 + 1, o2) :: (L + 1, o1) :: (_, _) :: rs, _ by kst_in) p hp)) (own_gt (by omega) hrs) ?_
    exact .cons _ _ (.cons _ _ (.cons _ _ (.cons _ _ .nil)))
  · unfold lawA lawEnv lawP
    dsimp only
    k_steps
    rename Fr _ _ _ _ => F2
    rename News _ _ _ _ => N2
    refine hq _ _ _ _ _ (fr_rest eM F2) (fun p hp => N2 p ((show ∀ p ∈ (L + 1 + 1 + 1 + 1 + 1 + 1 + 1 + 1, o8) :: (L + 1 + 1 + 1 + 1 + 1 + 1 + 1, o7) :: (L + 1 + 1 + 1 + 1 + 1 + 1, o6) :: (L + 1 + 1 + 1 + 1 + 1, o5) :: (L + 1 + 1 + 1 + 1, o4) :: (L + 1 + 1 + 1, o3) :: (L + 1 + 1, o2) :: (L + 1, o1) :: (_, _) :: rs, _ by kst_in) p hp)) (own_gt (by omega) hrs) ?_
    exact .cons _ _ (.cons _ _ (.cons _ _ (.cons _ _ (.cons _ _ (.cons _ _ (.cons _ _ (.cons _ _ (.cons _ _ .nil))))))))
  · unfold lawA lawEnv lawP
    dsimp only
    k_steps
    rename Fr _ _ _ _ => F2
    rename News _ _ _ _ => N2
    refine hq _ _ _ _ _ (fr_rest eM F2) (fun p hp => N2 p ((show ∀ p ∈ (L + 1 + 1 + 1 + 1 + 1 + 1 + 1 + 1, o8) :: (L + 1 + 1 + 1 + 1 + 1 + 1 + 1, o7) :: (L + 1 + 1 + 1 + 1 + 1 + 1, o6) :: (L + 1 + 1 + 1 + 1 + 1, o5) :: (L + 1 + 1 + 1 + 1, o4) :: (L + 1 + 1 + 1, o3) :: (L + 1 + 1, o2) :: (L + 1, o1) :: (_, _) :: rs, _ by kst_in) p hp)) (own_gt (by omega) hrs) ?_
    exact .cons _ _ (.cons _ _ (.cons _ _ (.cons _ _ (.cons _ _ (.cons _ _ (.cons _ _ .nil))))))
end
end D
end SCA4
section SCA5
theorem nilCA5 : True := by
  k_with_none
  w_top off
  trivial
/-- a call that hands back a list of ints of its own making -/
theorem useA {w : World} {mean : ExcName → Option Value} {mg mb : Str → Option Value} {f : Addr} {vs : List Value} {d u : Nat} {Pre : Heap → Prop} {ys : List Int} {dp un : Nat} {gd : Option (List Code)} {cn : Str} {cs : Scope} {a : Addr} {ccd : Value} {cl : List (Str × Addr)} {outer : List Env}
    {A₀ : Around} {base h₀ : Heap} {L : Addr} {m : Str → Option Value} {s : Shared} {Q E : Value → Shared → Prop} {news : List (Addr × Obj)} (S : Spec f vs d u Pre (fun h h' v => ∃ D us n, v = .ref D ∧ h.get? D = none ∧ h'.get? D = some (listOf us n) ∧ IntsAre us.toList ys))
    (B : Below A₀ base outer h₀) (F : Fr h₀ L s.heap m) (X : (hd.heap_39 w.params).In h₀) (T : Top hd.view_39 LS mean mg mb h₀) (N : News h₀ L s.heap news) (hk : cs.kind = .function) (hd : dp + d < recursionLimit) (hu : un + u < cLine) (hp : Pre s.heap)
    (h : ∀ D us n h' tk', Fr h₀ L h' m → News h₀ L h' ((D, listOf (List.toArray us) n) :: news) → OffD D news → @Ne Nat D L → IntsAre us ys → Q (.ref D) { s with heap := h', toks := tk' }) :
    wpAny (model PySem.Challenge.rw_wo0041_01.row.prog w) (ktrTop dp un gd cn cs L a ccd cl outer) (call (.ref f) vs) Q E s := by
  refine use S B F X T N hk hd hu hp fun v h' tk' F' N' st po => ?_
  obtain ⟨D, us, n, rfl, hD, hD', hR⟩ := po
  have hDL : D ≠ L := fun e => by
    obtain ⟨oL, _, _, hL, _⟩ := F.ns
    rw [e, hL] at hD; cases hD
  have hD0 : h₀.get? D = none := by
    cases hq : h₀.get? D with
    | none => rfl
    | some o => rw [F.keep _ _ hq] at hD; cases hD
  refine h D us.toList n h' tk' F' ?_ (offD_of fun p hp e => ?_) hDL hR
  · intro p hp
    rcases List.mem_cons.mp hp with rfl | hp
    · exact ⟨hD', hDL, hD0⟩
    · exact N' p hp
  · have := (N p hp).1
    rw [e, hD] at this; cases this
theorem useG {w : World} {mean : ExcName → Option Value} {mg mb : Str → Option Value} {f : Addr} {vs : List Value} {d u : Nat} {Pre : Heap → Prop} {ys : List Int} {dp un : Nat} {gd : Option (List Code)} {cn : Str} {cs : Scope} {a : Addr} {ccd : Value} {cl : List (Str × Addr)} {outer : List Env}
    {A₀ : Around} {base h₀ : Heap} {L : Addr} {m : Str → Option Value} {s : Shared} {Q E : Value → Shared → Prop} {news : List (Addr × Obj)} (S : SpecG f vs d u Pre (fun h h' v => ∃ D us n, v = .ref D ∧ h.get? D = none ∧ h'.get? D = some (listOf us n) ∧ IntsAre us.toList ys))
    (B : Below A₀ base outer h₀) (F : Fr h₀ L s.heap m) (X : (hd.heap_39 w.params).In h₀) (T : Top hd.view_39 LS mean mg mb h₀) (N : News h₀ L s.heap news) (hk : cs.kind = .function) (hd : dp + d < recursionLimit) (hu : un + u < cLine) (hp : Pre s.heap)
    (h : ∀ D us n h' tk' G, (AllBare s.gens → AllBare G) → Fr h₀ L h' m → News h₀ L h' ((D, listOf (List.toArray us) n) :: news) → OffD D news → @Ne Nat D L → IntsAre us ys → Q (.ref D) { s with heap := h', toks := tk', gens := G }) :
    wpAny (model PySem.Challenge.rw_wo0041_01.row.prog w) (ktrTop dp un gd cn cs L a ccd cl outer) (call (.ref f) vs) Q E s := by
  refine S w mean mg mb dp un gd cn cs a ccd cl outer A₀ base h₀ L m s Q E B F X T hk hd hu hp (fun v h' tk' G st hg po => ?_)
  obtain ⟨D, us, n, rfl, hD, hD', hR⟩ := po
  have hDL : D ≠ L := fun e => by
    obtain ⟨oL, _, _, hL, _⟩ := F.ns
    rw [e, hL] at hD; cases hD
  have hD0 : h₀.get? D = none := by
    cases hq : h₀.get? D with
    | none => rfl
    | some o => rw [F.keep _ _ hq] at hD; cases hD
  have F' : Fr h₀ L h' m := by
    obtain ⟨oL, es, ep, hL, hLd, hLk, hLf⟩ := F.ns
    exact ⟨⟨oL, es, ep, st L oL hL, hLd, hLk, hLf⟩, fun b o e => st b o (F.keep b o e), F.above⟩
  refine h D us.toList n h' tk' G hg F' ?_ (offD_of fun p hp e => ?_) hDL hR
  · intro p hp
    rcases List.mem_cons.mp hp with rfl | hp
    · exact ⟨hD', hDL, hD0⟩
    · exact ⟨st _ _ (N p hp).1, (N p hp).2⟩
  · have := (N p hp).1
    rw [e, hD] at this; cases this
noncomputable def toldP (kd w f : Int) : List Int := if kd = 0 ∨ kd = 1 then [f, w, w, w, w, w, w, w, w] else [f, w, w, w, w, w, w, w]
theorem told_giv {kd w f : Int} (h4 : kd = 0 ∨ kd = 1 ∨ kd = 2 ∨ kd = 3) (hw0 : 4 ≤ w) (hw1 : w ≤ 6) (hf0 : 1 ≤ f) (hf1 : f ≤ 9) : givP 9 (f :: tailP kd w) none = some (toldP kd w f) := by
  have a1 : w ≠ 127 := by omega
  have a2 : w ≠ 0 := by omega
  have a3 : f ≠ 127 := by omega
  have a4 : f ≠ 0 := by omega
  rcases h4 with rfl | rfl | rfl | rfl <;> simp [givP, tailP, toldP, a1, a2, a3, a4, List.replicate]
section D
section
variable {w : World} {mean : ExcName → Option Value} {mg mb : Str → Option Value} {dp un : Nat} {gd : Option (List Code)} {fa : Addr} {cdv : Value} {outer : List Env} {A₀ : Around} {base g : Heap} {L : Addr} {m : Str → Option Value} {s : Shared} {h : Heap} {tk : Nat} {Q : Flow → Shared → Prop} {E : Value → Shared → Prop}
  {o1 o2 o3 o4 o5 o6 o7 o8 : Obj} {rs : List (Addr × Obj)}
theorem st10 {Dt : Addr} {ust : Array Value} {nt : Nat} {wv kd fv : Int} {tf : Tok} (B' : Below A₀ base outer g) (X' : (hd.heap_39 w.params).In g) (T' : Top hd.view_39 LS mean mg mb g) (hd : dp + 20 < recursionLimit) (hu : un + 400 < cLine)
    (F : Fr g L h m) (N : News g L h ((L + 1 + 1 + 1 + 1 + 1 + 1 + 1 + 1, o8) :: (L + 1 + 1 + 1 + 1 + 1 + 1 + 1, o7) :: (L + 1 + 1 + 1 + 1 + 1 + 1, o6) :: (L + 1 + 1 + 1 + 1 + 1, o5) :: (L + 1 + 1 + 1 + 1, o4) :: (L + 1 + 1 + 1, o3) :: (L + 1 + 1, o2) :: (L + 1, o1) :: rs)) (hrs : OwnOff rs [L + 1 + 1 + 1 + 1 + 1 + 1 + 1 + 1, L + 1 + 1 + 1 + 1 + 1 + 1 + 1, L + 1 + 1 + 1 + 1 + 1 + 1, L + 1 + 1 + 1 + 1 + 1, L + 1 + 1 + 1 + 1, L + 1 + 1 + 1, L + 1 + 1, L + 1]) (hfr : m (Str.ofString "front") = some (.int fv tf)) (htl : m (Str.ofString "tail") = some (.ref Dt)) (hDt : (Dt, listOf ust nt) ∈ rs) (hIt : IntsAre ust.toList (tailP kd wv))
    (hg : givP 9 (fv :: tailP kd wv) none = some (toldP kd wv fv)) (hlen : (tailP kd wv).length ≤ 9)
    (hq : ∀ D us n h' tk' G, (AllBare s.gens → AllBare G) → Fr g L h' (fun z => if z = Str.ofString "told" then some (.ref D) else m z) → News g L h' ((L + 1 + 1 + 1 + 1 + 1 + 1 + 1 + 1, o8) :: (L + 1 + 1 + 1 + 1 + 1 + 1 + 1, o7) :: (L + 1 + 1 + 1 + 1 + 1 + 1, o6) :: (L + 1 + 1 + 1 + 1 + 1, o5) :: (L + 1 + 1 + 1 + 1, o4) :: (L + 1 + 1 + 1, o3) :: (L + 1 + 1, o2) :: (L + 1, o1) :: (D, listOf (List.toArray us) n) :: rs) → OwnOff ((D, listOf (List.toArray us) n) :: rs) [L + 1 + 1 + 1 + 1 + 1 + 1 + 1 + 1, L + 1 + 1 + 1 + 1 + 1 + 1 + 1, L + 1 + 1 + 1 + 1 + 1 + 1, L + 1 + 1 + 1 + 1 + 1, L + 1 + 1 + 1 + 1, L + 1 + 1 + 1, L + 1 + 1, L + 1] → IntsAre us (toldP kd wv fv) → Q .next { s with heap := h', toks := tk', gens := G }) :
    wpAny (model PySem.Challenge.rw_wo0041_01.row.prog w) (lawA w.params dp un gd L fa cdv outer) (exec (lawP w.params).1.s10 (lawEnv w.params L fa cdv)) Q (fun _ _ => False) { s with heap := h, toks := tk } := by
  have eM := at1 (at1 rfl hfr) htl
  replace F := fr_fwd eM F
  (try dsimp only at F)
  k_with "CAT" => (refine' kmk_add_ints ?F9 ?N9 ?a9 ?b9 (.cons _ _ .nil) hIt ?_ ?z9; (case F9 => k_asm); (case N9 => k_asm); (case a9 => is_list); (case b9 => exact News.isList (by assumption) (by kst_mem)); (case z9 => (rw [PySem.sizeLine_eq]; simp only [List.length_cons, List.length_nil]; omega)); intro D9 ws9 h9 F9 N9 l9 hI9)
  k_with "UL" => ((rename Fr _ _ _ _ => lF); (rename News _ _ _ _ => lN); refine' useG (told_spec _ _ _ _ hg) B' lF X' T' lN rfl ?u1 ?u2 ⟨lN.isList List.mem_cons_self, by assumption⟩ ?_; (case u1 => omega); (case u2 => omega); intro D us n h tk G hG F N off1 ne1 hI; clear lF lN; (try k_fold))
  unfold lawA lawEnv lawP
  dsimp only
  k_steps
  k_with_none
  rename Fr _ _ _ _ => F2
  rename News _ _ _ _ => N2
  exact hq _ _ _ _ _ _ hG (fr_rest eM F2) (fun p hp => N2 p ((show ∀ p ∈ (L + 1 + 1 + 1 + 1 + 1 + 1 + 1 + 1, o8) :: (L + 1 + 1 + 1 + 1 + 1 + 1 + 1, o7) :: (L + 1 + 1 + 1 + 1 + 1 + 1, o6) :: (L + 1 + 1 + 1 + 1 + 1, o5) :: (L + 1 + 1 + 1 + 1, o4) :: (L + 1 + 1 + 1, o3) :: (L + 1 + 1, o2) :: (L + 1, o1) :: (_, _) :: rs, _ by kst_in) p hp)) (own_new off1.2.2 hrs) hI
theorem ne_ints_eq {prog : Program} {w : World} {A : Around} {E : Value → Shared → Prop} {s : Shared} {a b : Addr} {vs us : List Value} {ns ms : List Int} {Q : Value → Shared → Prop} (hl : s.heap.IsList a vs.toArray) (hi : IntsAre vs ns) (hl' : s.heap.IsList b us.toArray) (hi' : IntsAre us ms) (e : ns = ms) (hu : A.units + 64 < cLine)
    (h : Q (.bool false) s) : wpAny (model prog w) A (compareOp .NotEq (.ref a) (.ref b)) Q E s :=
  ne_intsK hl hi hl' hi' hu (by rw [decide_eq_true e]; exact h)
theorem st11 {D : Addr} {us : List Value} {n : Nat} {wv kd fv : Int} {tw tkd tf : Tok} (B' : Below A₀ base outer g) (X' : (hd.heap_39 w.params).In g) (T' : Top hd.view_39 LS mean mg mb g) (hd : dp + 20 < recursionLimit) (hu : un + 400 < cLine)
    (F : Fr g L h m) (N : News g L h ((L + 1 + 1 + 1 + 1 + 1 + 1 + 1 + 1, o8) :: (L + 1 + 1 + 1 + 1 + 1 + 1 + 1, o7) :: (L + 1 + 1 + 1 + 1 + 1 + 1, o6) :: (L + 1 + 1 + 1 + 1 + 1, o5) :: (L + 1 + 1 + 1 + 1, o4) :: (L + 1 + 1 + 1, o3) :: (L + 1 + 1, o2) :: (L + 1, o1) :: rs)) (hrs : OwnOff rs [L + 1 + 1 + 1 + 1 + 1 + 1 + 1 + 1, L + 1 + 1 + 1 + 1 + 1 + 1 + 1, L + 1 + 1 + 1 + 1 + 1 + 1, L + 1 + 1 + 1 + 1 + 1, L + 1 + 1 + 1 + 1, L + 1 + 1 + 1, L + 1 + 1, L + 1]) (hw : m (Str.ofString "width") = some (.int wv tw)) (hkd : m (Str.ofString "kind") = some (.int kd tkd)) (hfr : m (Str.ofString "front") = some (.int fv tf)) (htd : m (Str.ofString "told") = some (.ref D)) (hD : (D, listOf us.toArray n) ∈ rs)
    (hI : IntsAre us (toldP kd wv fv)) (h4 : kd = 0 ∨ kd = 1 ∨ kd = 2 ∨ kd = 3)
    (hq : ∀ h' tk', Fr g L h' m → News g L h' ((L + 1 + 1 + 1 + 1 + 1 + 1 + 1 + 1, o8) :: (L + 1 + 1 + 1 + 1 + 1 + 1 + 1, o7) :: (L + 1 + 1 + 1 + 1 + 1 + 1, o6) :: (L + 1 + 1 + 1 + 1 + 1, o5) :: (L + 1 + 1 + 1 + 1, o4) :: (L + 1 + 1 + 1, o3) :: (L + 1 + 1, o2) :: (L + 1, o1) :: rs) → Q .next { s with heap := h', toks := tk' }) :
    wpAny (model PySem.Challenge.rw_wo0041_01.row.prog w) (lawA w.params dp un gd L fa cdv outer) (exec (lawP w.params).1.s11 (lawEnv w.params L fa cdv)) Q (fun _ _ => False) { s with heap := h, toks := tk } := by
  have eM := at1 (at1 (at1 (at1 rfl hkd) hw) hfr) htd
  replace F := fr_fwd eM F
  k_with "NE" => (refine' ne_ints_eq ?a9 hI ?c9 ?d9 ?e9 ?u9 ?_; (case a9 => exact News.isList (by assumption) (by kst_mem)); (case c9 => is_list); (case d9 => l_ints); (case e9 => rfl); (case u9 => ktr_units))
  rcases h4 with rfl | rfl | rfl | rfl
  all_goals
    unfold lawA lawEnv lawP
    dsimp only
    k_steps
  all_goals
    rename Fr _ _ _ _ => F2
    rename News _ _ _ _ => N2
    exact hq _ _ (fr_rev eM F2) (fun p hp => N2 p ((show ∀ p ∈ (L + 1 + 1 + 1 + 1 + 1 + 1 + 1 + 1, o8) :: (L + 1 + 1 + 1 + 1 + 1 + 1 + 1, o7) :: (L + 1 + 1 + 1 + 1 + 1 + 1, o6) :: (L + 1 + 1 + 1 + 1 + 1, o5) :: (L + 1 + 1 + 1 + 1, o4) :: (L + 1 + 1 + 1, o3) :: (L + 1 + 1, o2) :: (L + 1, o1) :: rs, _ by kst_in) p hp))
end
end D
end SCA5
section SCA6
theorem nilCA6 : True := by
  k_with_none
  w_top off
  trivial
theorem news_drop1 {g h : Heap} {L : Addr} {x y : Addr × Obj} {l : List (Addr × Obj)} (N : News g L h (x :: y :: l)) : News g L h (x :: l) := fun p hp => N p ((List.mem_cons.mp hp).elim (fun e => e ▸ List.mem_cons_self) fun h => List.mem_cons_of_mem _ (List.mem_cons_of_mem _ h))
section D
section
variable {w : World} {mean : ExcName → Option Value} {mg mb : Str → Option Value} {dp un : Nat} {gd : Option (List Code)} {fa : Addr} {cdv : Value} {outer : List Env} {A₀ : Around} {base g : Heap} {L : Addr} {m : Str → Option Value} {s : Shared} {h : Heap} {tk : Nat} {Q : Flow → Shared → Prop} {E : Value → Shared → Prop}
  {o1 o2 o3 o4 o5 o6 o7 o8 : Obj} {rs : List (Addr × Obj)}
theorem st13 {D : Addr} {us : List Value} {n : Nat} {fs r : List Int} {U Nn : Int} {tu : Tok} {fu : Nat} (B' : Below A₀ base outer g) (X' : (hd.heap_39 w.params).In g) (T' : Top hd.view_39 LS mean mg mb g) (hd : dp + 20 < recursionLimit) (hu : un + 400 < cLine)
    (F : Fr g L h m) (N : News g L h ((L + 1 + 1 + 1 + 1 + 1 + 1 + 1 + 1, o8) :: (L + 1 + 1 + 1 + 1 + 1 + 1 + 1, o7) :: (L + 1 + 1 + 1 + 1 + 1 + 1, o6) :: (L + 1 + 1 + 1 + 1 + 1, o5) :: (L + 1 + 1 + 1 + 1, o4) :: (L + 1 + 1 + 1, o3) :: (L + 1 + 1, o2) :: (L + 1, o1) :: rs)) (hrs : OwnOff rs [L + 1 + 1 + 1 + 1 + 1 + 1 + 1 + 1, L + 1 + 1 + 1 + 1 + 1 + 1 + 1, L + 1 + 1 + 1 + 1 + 1 + 1, L + 1 + 1 + 1 + 1 + 1, L + 1 + 1 + 1 + 1, L + 1 + 1 + 1, L + 1 + 1, L + 1]) (d5 : o5.data = .cell (some (.ref D))) (hD : (D, listOf us.toArray n) ∈ rs) (hI : IntsAre us fs) (hP : Parts fs) (hun : m (Str.ofString "unit") = some (.int U tu)) (hU : U.natAbs < 2 ^ 64)
    (hl : (shortS fs).length ≤ 600) (hsy : symsP (shortS fs) fu 0 = some r) (hwo : worthP U (U ^ 6) (r ++ [0]) = some Nn)
    (hq : ∀ h' tk' t, Fr g L h' (fun z => if z = Str.ofString "number" then some (.int Nn t) else m z) → News g L h' ((L + 1 + 1 + 1 + 1 + 1 + 1 + 1 + 1, o8) :: (L + 1 + 1 + 1 + 1 + 1 + 1 + 1, o7) :: (L + 1 + 1 + 1 + 1 + 1 + 1, o6) :: (L + 1 + 1 + 1 + 1 + 1, o5) :: (L + 1 + 1 + 1 + 1, o4) :: (L + 1 + 1 + 1, o3) :: (L + 1 + 1, o2) :: (L + 1, o1) :: rs) → Q .next { s with heap := h', toks := tk' }) :
    wpAny (model PySem.Challenge.rw_wo0041_01.row.prog w) (lawA w.params dp un gd L fa cdv outer) (exec (lawP w.params).1.s13 (lawEnv w.params L fa cdv)) Q (fun _ _ => False) { s with heap := h, toks := tk } := by
  have eM := at1 rfl hun
  replace F := fr_fwd eM F
  k_with "POW" => (refine pow_int_small (by omega) (by omega) (by assumption) ?_)
  k_with "UL" => ((rename Fr _ _ _ _ => lF); (rename News _ _ _ _ => lN); first
    | (refine' use (short_spec D us fs hP) B' lF X' T' lN rfl ?u1 ?u2 ⟨lN.isList (by kst_mem), hI⟩ ?_; (case u1 => omega); (case u2 => omega); intro v h tk F N st po; obtain ⟨t8, rfl⟩ := po; clear st lF lN; (try k_fold))
    | (refine' useA (symbols_spec _ _ hl fu r hsy) B' lF X' T' lN rfl ?u1 ?u2 trivial ?_; (case u1 => omega); (case u2 => omega); intro D8 us8 n8 h tk F N off8 ne8 hI8; clear lF lN; (try k_fold))
    | (refine' use (worth_spec _ _ _ _ _ _ _ _ hwo) B' lF X' T' lN rfl ?u1 ?u2 ⟨lN.isList List.mem_cons_self, hI8⟩ ?_; (case u1 => omega); (case u2 => omega); intro v h tk F N st po; obtain ⟨t8, rfl⟩ := po; clear st lF lN; (try k_fold)))
  unfold lawA lawEnv lawP
  dsimp only
  k_steps
  k_with_none
  rename Fr _ _ _ _ => F2
  rename News _ _ _ _ => N2
  exact hq _ _ _ (fr_rest eM F2) (fun p hp => N2 p ((show ∀ p ∈ (L + 1 + 1 + 1 + 1 + 1 + 1 + 1 + 1, o8) :: (L + 1 + 1 + 1 + 1 + 1 + 1 + 1, o7) :: (L + 1 + 1 + 1 + 1 + 1 + 1, o6) :: (L + 1 + 1 + 1 + 1 + 1, o5) :: (L + 1 + 1 + 1 + 1, o4) :: (L + 1 + 1 + 1, o3) :: (L + 1 + 1, o2) :: (L + 1, o1) :: rs, _ by kst_in) p hp))
theorem st14 {D : Addr} {us : List Value} {n : Nat} {ns : List Int} {Nn : Int} {tn : Tok} {v6 : Option Value} (B' : Below A₀ base outer g) (X' : (hd.heap_39 w.params).In g) (T' : Top hd.view_39 LS mean mg mb g) (hd : dp + 20 < recursionLimit) (hu : un + 400 < cLine)
    (F : Fr g L h m) (N : News g L h ((L + 1 + 1 + 1 + 1 + 1 + 1 + 1 + 1, o8) :: (L + 1 + 1 + 1 + 1 + 1 + 1 + 1, o7) :: (L + 1 + 1 + 1 + 1 + 1 + 1, o6) :: (L + 1 + 1 + 1 + 1 + 1, o5) :: (L + 1 + 1 + 1 + 1, o4) :: (L + 1 + 1 + 1, o3) :: (L + 1 + 1, o2) :: (L + 1, o1) :: rs)) (hrs : OwnOff rs [L + 1 + 1 + 1 + 1 + 1 + 1 + 1 + 1, L + 1 + 1 + 1 + 1 + 1 + 1 + 1, L + 1 + 1 + 1 + 1 + 1 + 1, L + 1 + 1 + 1 + 1 + 1, L + 1 + 1 + 1 + 1, L + 1 + 1 + 1, L + 1 + 1, L + 1]) (d6 : o6.data = .cell v6) (hD : (D, listOf us.toArray n) ∈ rs) (hI : IntsAre us ns) (htd : m (Str.ofString "told") = some (.ref D)) (hnm : m (Str.ofString "number") = some (.int Nn tn))
    (h0 : 0 ≤ Nn) (h1 : fit Nn = true) (hn : 0 < ns.length) (hn2 : ns.length < 100) (hsz : ∀ x ∈ ns, 1 ≤ x ∧ x ≤ 9)
    (hq : ∀ D6 us6 n6 h' tk' o6, Fr g L h' m → News g L h' ((L + 1 + 1 + 1 + 1 + 1 + 1 + 1 + 1, o8) :: (L + 1 + 1 + 1 + 1 + 1 + 1 + 1, o7) :: (L + 1 + 1 + 1 + 1 + 1 + 1, o6) :: (L + 1 + 1 + 1 + 1 + 1, o5) :: (L + 1 + 1 + 1 + 1, o4) :: (L + 1 + 1 + 1, o3) :: (L + 1 + 1, o2) :: (L + 1, o1) :: (D6, listOf (List.toArray us6) n6) :: rs) → OwnOff ((D6, listOf (List.toArray us6) n6) :: rs) [L + 1 + 1 + 1 + 1 + 1 + 1 + 1 + 1, L + 1 + 1 + 1 + 1 + 1 + 1 + 1, L + 1 + 1 + 1 + 1 + 1 + 1, L + 1 + 1 + 1 + 1 + 1, L + 1 + 1 + 1 + 1, L + 1 + 1 + 1, L + 1 + 1, L + 1] → o6.data = .cell (some (.ref D6)) → StrsAre us6 (groupsS Nn ns) → Q .next { s with heap := h', toks := tk' }) :
    wpAny (model PySem.Challenge.rw_wo0041_01.row.prog w) (lawA w.params dp un gd L fa cdv outer) (exec (lawP w.params).1.s14 (lawEnv w.params L fa cdv)) Q (fun _ _ => False) { s with heap := h, toks := tk } := by
  have eM := at1 (at1 rfl hnm) htd
  replace F := fr_fwd eM F
  k_with "UL" => ((rename Fr _ _ _ _ => lF); (rename News _ _ _ _ => lN); (refine' useL (groups_spec Nn _ D us ns h0 h1 hn hn2 hsz) B' lF X' T' lN rfl ?u1 ?u2 ⟨lN.isList (by kst_mem), hI⟩ ?_; (case u1 => omega); (case u2 => omega); intro D8 us8 n8 h tk F N off8 ne8 hS8; clear lF lN; (try k_fold)))
  unfold lawA lawEnv lawP
  dsimp only
  k_steps
  k_with_none
  rename Fr _ _ _ _ => F2
  rename News _ _ _ _ => N2
  exact hq _ _ _ _ _ _ (fr_rev eM F2) (move8 N2) (own_new off8 hrs) (by assumption) hS8
theorem st15 {D D3 : Addr} {us us3 : List Value} {n n3 : Nat} {ns bs r : List Int} {U b Nn : Int} {tu tb : Tok} {fu : Nat} {v7 : Option Value} (B' : Below A₀ base outer g) (X' : (hd.heap_39 w.params).In g) (T' : Top hd.view_39 LS mean mg mb g) (hd : dp + 20 < recursionLimit) (hu : un + 400 < cLine)
    (F : Fr g L h m) (N : News g L h ((L + 1 + 1 + 1 + 1 + 1 + 1 + 1 + 1, o8) :: (L + 1 + 1 + 1 + 1 + 1 + 1 + 1, o7) :: (L + 1 + 1 + 1 + 1 + 1 + 1, o6) :: (L + 1 + 1 + 1 + 1 + 1, o5) :: (L + 1 + 1 + 1 + 1, o4) :: (L + 1 + 1 + 1, o3) :: (L + 1 + 1, o2) :: (L + 1, o1) :: rs)) (hrs : OwnOff rs [L + 1 + 1 + 1 + 1 + 1 + 1 + 1 + 1, L + 1 + 1 + 1 + 1 + 1 + 1 + 1, L + 1 + 1 + 1 + 1 + 1 + 1, L + 1 + 1 + 1 + 1 + 1, L + 1 + 1 + 1 + 1, L + 1 + 1 + 1, L + 1 + 1, L + 1]) (d2 : o2.data = .cell (some (.int b tb))) (d3 : o3.data = .cell (some (.ref D3))) (d7 : o7.data = .cell v7) (hD : (D, listOf us.toArray n) ∈ rs) (hI : IntsAre us ns) (hD3 : (D3, listOf us3.toArray n3) ∈ rs) (hI3 : IntsAre us3 bs) (hP : Parts bs) (hb : 2 ≤ b ∧ b ≤ 3)
    (htd : m (Str.ofString "told") = some (.ref D)) (hun : m (Str.ofString "unit") = some (.int U tu)) (hU : U.natAbs < 2 ^ 64)
    (hl : (boundedS bs b).length ≤ 600) (hsy : symsP (boundedS bs b) fu 0 = some r) (hwo : worthP U (U ^ 6) (r ++ [0]) = some Nn)
    (h0 : 0 ≤ Nn) (h1 : fit Nn = true) (hn : 0 < ns.length) (hn2 : ns.length < 100) (hsz : ∀ x ∈ ns, 1 ≤ x ∧ x ≤ 9)
    (hq : ∀ D7 us7 n7 h' tk' o7, Fr g L h' m → News g L h' ((L + 1 + 1 + 1 + 1 + 1 + 1 + 1 + 1, o8) :: (L + 1 + 1 + 1 + 1 + 1 + 1 + 1, o7) :: (L + 1 + 1 + 1 + 1 + 1 + 1, o6) :: (L + 1 + 1 + 1 + 1 + 1, o5) :: (L + 1 + 1 + 1 + 1, o4) :: (L + 1 + 1 + 1, o3) :: (L + 1 + 1, o2) :: (L + 1, o1) :: (D7, listOf (List.toArray us7) n7) :: rs) → OwnOff ((D7, listOf (List.toArray us7) n7) :: rs) [L + 1 + 1 + 1 + 1 + 1 + 1 + 1 + 1, L + 1 + 1 + 1 + 1 + 1 + 1 + 1, L + 1 + 1 + 1 + 1 + 1 + 1, L + 1 + 1 + 1 + 1 + 1, L + 1 + 1 + 1 + 1, L + 1 + 1 + 1, L + 1 + 1, L + 1] → o7.data = .cell (some (.ref D7)) → StrsAre us7 (groupsS Nn ns) → Q .next { s with heap := h', toks := tk' }) :
    wpAny (model PySem.Challenge.rw_wo0041_01.row.prog w) (lawA w.params dp un gd L fa cdv outer) (exec (lawP w.params).1.s15 (lawEnv w.params L fa cdv)) Q (fun _ _ => False) { s with heap := h, toks := tk } := by
  have eM := at1 (at1 rfl hun) htd
  replace F := fr_fwd eM F
  k_with "POW" => (refine pow_int_small (by omega) (by omega) (by assumption) ?_)
  k_with "UL" => ((rename Fr _ _ _ _ => lF); (rename News _ _ _ _ => lN); first
    | (refine' use (bounded_spec D3 us3 bs b _ hP hb.1 hb.2) B' lF X' T' lN rfl ?u1 ?u2 ⟨lN.isList (by kst_mem), hI3⟩ ?_; (case u1 => omega); (case u2 => omega); intro v h tk F N st po; obtain ⟨t8, rfl⟩ := po; clear st lF lN; (try k_fold))
    | (refine' useA (symbols_spec _ _ hl fu r hsy) B' lF X' T' lN rfl ?u1 ?u2 trivial ?_; (case u1 => omega); (case u2 => omega); intro D8 us8 n8 h tk F N off8 ne8 hI8; clear lF lN; (try k_fold))
    | (refine' use (worth_spec _ _ _ _ _ _ _ _ hwo) B' lF X' T' lN rfl ?u1 ?u2 ⟨lN.isList List.mem_cons_self, hI8⟩ ?_; (case u1 => omega); (case u2 => omega); intro v h tk F N st po; obtain ⟨t8, rfl⟩ := po; clear st lF lN; (try k_fold))
    | (refine' useL (groups_spec Nn _ D us ns h0 h1 hn hn2 hsz) B' lF X' T' lN rfl ?u1 ?u2 ⟨lN.isList (by kst_mem), hI⟩ ?_; (case u1 => omega); (case u2 => omega); intro D9 us9 n9 h tk F N off9 ne9 hS9; clear lF lN; (try k_fold)))
  unfold lawA lawEnv lawP
  dsimp only
  k_steps
  k_with_none
  rename Fr _ _ _ _ => F2
  rename News _ _ _ _ => N2
  exact hq _ _ _ _ _ _ (fr_rev eM F2) (move8 (news_drop1 N2)) (own_new off9.2 hrs) (by assumption) hS9
end
end D
end SCA6
section SCA7
theorem nilCA7 : True := by
  k_with_none
  w_top off
  trivial
section D
section
variable {w : World} {mean : ExcName → Option Value} {mg mb : Str → Option Value} {dp un : Nat} {gd : Option (List Code)} {fa : Addr} {cdv : Value} {outer : List Env} {A₀ : Around} {base g : Heap} {L : Addr} {m : Str → Option Value} {s : Shared} {h : Heap} {tk : Nat} {Q : Flow → Shared → Prop} {E : Value → Shared → Prop}
  {o1 o2 o3 o4 o5 o6 o7 o8 : Obj} {rs : List (Addr × Obj)}
theorem st16 {D D6 : Addr} {us us6 : List Value} {n n6 : Nat} {fs cs : List Int} {gs : List Str} (B' : Below A₀ base outer g) (X' : (hd.heap_39 w.params).In g) (T' : Top hd.view_39 LS mean mg mb g) (hd : dp + 20 < recursionLimit) (hu : un + 400 < cLine)
    (F : Fr g L h m) (N : News g L h ((L + 1 + 1 + 1 + 1 + 1 + 1 + 1 + 1, o8) :: (L + 1 + 1 + 1 + 1 + 1 + 1 + 1, o7) :: (L + 1 + 1 + 1 + 1 + 1 + 1, o6) :: (L + 1 + 1 + 1 + 1 + 1, o5) :: (L + 1 + 1 + 1 + 1, o4) :: (L + 1 + 1 + 1, o3) :: (L + 1 + 1, o2) :: (L + 1, o1) :: rs)) (hrs : OwnOff rs [L + 1 + 1 + 1 + 1 + 1 + 1 + 1 + 1, L + 1 + 1 + 1 + 1 + 1 + 1 + 1, L + 1 + 1 + 1 + 1 + 1 + 1, L + 1 + 1 + 1 + 1 + 1, L + 1 + 1 + 1 + 1, L + 1 + 1 + 1, L + 1 + 1, L + 1]) (d5 : o5.data = .cell (some (.ref D))) (d6 : o6.data = .cell (some (.ref D6))) (hD : (D, listOf us.toArray n) ∈ rs) (hI : IntsAre us fs) (hD6 : (D6, listOf us6.toArray n6) ∈ rs) (hS6 : StrsAre us6 gs) (hP : Parts fs)
    (hgl : gs.length = 9) (hgs : ∀ k : Int, 0 ≤ k → k < 7 → PySem.intText? (gs.getD (7 - k).toNat Str.empty) = some (cs.getD k.toNat 0) ∧ (gs.getD (7 - k).toNat Str.empty).length ≤ 640) (hcs : (rangeKs 0 7).map (fun k => cs.getD k.toNat 0) = countsP fs 7)
    (hq : ∀ h' tk', Fr g L h' m → News g L h' ((L + 1 + 1 + 1 + 1 + 1 + 1 + 1 + 1, o8) :: (L + 1 + 1 + 1 + 1 + 1 + 1 + 1, o7) :: (L + 1 + 1 + 1 + 1 + 1 + 1, o6) :: (L + 1 + 1 + 1 + 1 + 1, o5) :: (L + 1 + 1 + 1 + 1, o4) :: (L + 1 + 1 + 1, o3) :: (L + 1 + 1, o2) :: (L + 1, o1) :: rs) → Q .next { s with heap := h', toks := tk' }) :
    wpAny (model PySem.Challenge.rw_wo0041_01.row.prog w) (lawA w.params dp un gd L fa cdv outer) (exec (lawP w.params).1.s16 (lawEnv w.params L fa cdv)) Q (fun _ _ => False) { s with heap := h, toks := tk } := by
  k_with "CS" => (refine LCg.CompSrc.range (by rfl) (by k_asm) (by k_asm) (by assumption) (small_one (by decide) (by decide) (by decide) (by decide)) (n := 7) (by rw [rangeSize_nat]; rfl) (by decide) ?_; intro g'; refine' comp_range (fun k y => ∃ t, y = Value.int (cs.getD k.toNat 0) t) (fun k t I oI C oC D9 m₂ ys h tk E' hlo hhi hC hx F N off ne => ?_) ?_; (all_goals (try (have hgk := hgs k (by omega) (by omega)))); (all_goals (try k_fold)))
  k_with "SUBX" => (refine item_strsA (News.isList (by assumption) (by kst_mem)) hS6 (by omega) (by omega) (by omega) ?_; intro t9)
  k_with "INT" => (refine KIN.call_text hgk.1 hgk.2 ?_)
  k_with "UL" => ((rename Fr _ _ _ _ => lF); (rename News _ _ _ _ => lN); (refine' useA (counts_spec D us fs 7 _ (by have := hP.1; omega) hP.2 (by decide) (by decide)) B' lF X' T' lN rfl ?u1 ?u2 ⟨lN.isList (by kst_mem), hI⟩ ?_; (case u1 => omega); (case u2 => omega); intro D8 us8 n8 h tk F N off8 ne8 hI8; clear lF lN; (try k_fold)))
  k_with "NE" => (refine' ne_ints_eq ?a9 ?b9 ?c9 ?d9 ?e9 ?u9 ?_; (case a9 => is_list); (case b9 => exact Each.ints (by assumption)); (case c9 => is_list); (case d9 => exact hI8); (case e9 => exact hcs); (case u9 => ktr_units))
  unfold lawA lawEnv lawP
  dsimp only
  k_steps
  k_with_none
  · exact LCg.CompEnd.intro (by assumption) (by assumption) _ (fun p hp => hp) off trivial ⟨rfl, _, rfl⟩
  · rename Fr _ _ _ _ => F2
    rename News _ _ _ _ => N2
    exact hq _ _ F2 (fun p hp => N2 p ((show ∀ p ∈ (L + 1 + 1 + 1 + 1 + 1 + 1 + 1 + 1, o8) :: (L + 1 + 1 + 1 + 1 + 1 + 1 + 1, o7) :: (L + 1 + 1 + 1 + 1 + 1 + 1, o6) :: (L + 1 + 1 + 1 + 1 + 1, o5) :: (L + 1 + 1 + 1 + 1, o4) :: (L + 1 + 1 + 1, o3) :: (L + 1 + 1, o2) :: (L + 1, o1) :: rs, _ by kst_in) p hp))
theorem st17 {D D6 : Addr} {us us6 : List Value} {n n6 : Nat} {fs cs : List Int} {gs : List Str} {b : Int} {tb : Tok} (B' : Below A₀ base outer g) (X' : (hd.heap_39 w.params).In g) (T' : Top hd.view_39 LS mean mg mb g) (hd : dp + 20 < recursionLimit) (hu : un + 400 < cLine)
    (F : Fr g L h m) (N : News g L h ((L + 1 + 1 + 1 + 1 + 1 + 1 + 1 + 1, o8) :: (L + 1 + 1 + 1 + 1 + 1 + 1 + 1, o7) :: (L + 1 + 1 + 1 + 1 + 1 + 1, o6) :: (L + 1 + 1 + 1 + 1 + 1, o5) :: (L + 1 + 1 + 1 + 1, o4) :: (L + 1 + 1 + 1, o3) :: (L + 1 + 1, o2) :: (L + 1, o1) :: rs)) (hrs : OwnOff rs [L + 1 + 1 + 1 + 1 + 1 + 1 + 1 + 1, L + 1 + 1 + 1 + 1 + 1 + 1 + 1, L + 1 + 1 + 1 + 1 + 1 + 1, L + 1 + 1 + 1 + 1 + 1, L + 1 + 1 + 1 + 1, L + 1 + 1 + 1, L + 1 + 1, L + 1]) (d2 : o2.data = .cell (some (.int b tb))) (hb : 2 ≤ b ∧ b ≤ 3) (d5 : o3.data = .cell (some (.ref D))) (d6 : o7.data = .cell (some (.ref D6))) (hD : (D, listOf us.toArray n) ∈ rs) (hI : IntsAre us fs) (hD6 : (D6, listOf us6.toArray n6) ∈ rs) (hS6 : StrsAre us6 gs) (hP : Parts fs)
    (hgl : gs.length = 9) (hgs : ∀ k : Int, 0 ≤ k → k < 7 → PySem.intText? (gs.getD (7 - k).toNat Str.empty) = some (cs.getD k.toNat 0) ∧ (gs.getD (7 - k).toNat Str.empty).length ≤ 640) (hcs : (rangeKs 0 7).map (fun k => cs.getD k.toNat 0) = countsP fs b)
    (hq : ∀ h' tk', Fr g L h' m → News g L h' ((L + 1 + 1 + 1 + 1 + 1 + 1 + 1 + 1, o8) :: (L + 1 + 1 + 1 + 1 + 1 + 1 + 1, o7) :: (L + 1 + 1 + 1 + 1 + 1 + 1, o6) :: (L + 1 + 1 + 1 + 1 + 1, o5) :: (L + 1 + 1 + 1 + 1, o4) :: (L + 1 + 1 + 1, o3) :: (L + 1 + 1, o2) :: (L + 1, o1) :: rs) → Q .next { s with heap := h', toks := tk' }) :
    wpAny (model PySem.Challenge.rw_wo0041_01.row.prog w) (lawA w.params dp un gd L fa cdv outer) (exec (lawP w.params).1.s17 (lawEnv w.params L fa cdv)) Q (fun _ _ => False) { s with heap := h, toks := tk } := by
  k_with "CS" => (refine LCg.CompSrc.range (by rfl) (by k_asm) (by k_asm) (by assumption) (small_one (by decide) (by decide) (by decide) (by decide)) (n := 7) (by rw [rangeSize_nat]; rfl) (by decide) ?_; intro g'; refine' comp_range (fun k y => ∃ t, y = Value.int (cs.getD k.toNat 0) t) (fun k t I oI C oC D9 m₂ ys h tk E' hlo hhi hC hx F N off ne => ?_) ?_; (all_goals (try (have hgk := hgs k (by omega) (by omega)))); (all_goals (try k_fold)))
  k_with "SUBX" => (refine item_strsA (News.isList (by assumption) (by kst_mem)) hS6 (by omega) (by omega) (by omega) ?_; intro t9)
  k_with "INT" => (refine KIN.call_text hgk.1 hgk.2 ?_)
  k_with "UL" => ((rename Fr _ _ _ _ => lF); (rename News _ _ _ _ => lN); (refine' useA (counts_spec D us fs b _ (by have := hP.1; omega) hP.2 (by omega) (by omega)) B' lF X' T' lN rfl ?u1 ?u2 ⟨lN.isList (by kst_mem), hI⟩ ?_; (case u1 => omega); (case u2 => omega); intro D8 us8 n8 h tk F N off8 ne8 hI8; clear lF lN; (try k_fold)))
  k_with "NE" => (refine' ne_ints_eq ?a9 ?b9 ?c9 ?d9 ?e9 ?u9 ?_; (case a9 => is_list); (case b9 => exact Each.ints (by assumption)); (case c9 => is_list); (case d9 => exact hI8); (case e9 => exact hcs); (case u9 => ktr_units))
  unfold lawA lawEnv lawP
  dsimp only
  k_steps
  k_with_none
  · exact LCg.CompEnd.intro (by assumption) (by assumption) _ (fun p hp => hp) off trivial ⟨rfl, _, rfl⟩
  · rename Fr _ _ _ _ => F2
    rename News _ _ _ _ => N2
    exact hq _ _ F2 (fun p hp => N2 p ((show ∀ p ∈ (L + 1 + 1 + 1 + 1 + 1 + 1 + 1 + 1, o8) :: (L + 1 + 1 + 1 + 1 + 1 + 1 + 1, o7) :: (L + 1 + 1 + 1 + 1 + 1 + 1, o6) :: (L + 1 + 1 + 1 + 1 + 1, o5) :: (L + 1 + 1 + 1 + 1, o4) :: (L + 1 + 1 + 1, o3) :: (L + 1 + 1, o2) :: (L + 1, o1) :: rs, _ by kst_in) p hp))
theorem st18 {D3 D5 : Addr} {us3 us5 : List Value} {n3 n5 : Nat} {fs bs : List Int} {b : Int} {tb : Tok} {v8 : Option Value} (B' : Below A₀ base outer g) (X' : (hd.heap_39 w.params).In g) (T' : Top hd.view_39 LS mean mg mb g) (hd : dp + 20 < recursionLimit) (hu : un + 400 < cLine)
    (F : Fr g L h m) (N : News g L h ((L + 1 + 1 + 1 + 1 + 1 + 1 + 1 + 1, o8) :: (L + 1 + 1 + 1 + 1 + 1 + 1 + 1, o7) :: (L + 1 + 1 + 1 + 1 + 1 + 1, o6) :: (L + 1 + 1 + 1 + 1 + 1, o5) :: (L + 1 + 1 + 1 + 1, o4) :: (L + 1 + 1 + 1, o3) :: (L + 1 + 1, o2) :: (L + 1, o1) :: rs)) (hrs : OwnOff rs [L + 1 + 1 + 1 + 1 + 1 + 1 + 1 + 1, L + 1 + 1 + 1 + 1 + 1 + 1 + 1, L + 1 + 1 + 1 + 1 + 1 + 1, L + 1 + 1 + 1 + 1 + 1, L + 1 + 1 + 1 + 1, L + 1 + 1 + 1, L + 1 + 1, L + 1]) (d2 : o2.data = .cell (some (.int b tb))) (d3 : o3.data = .cell (some (.ref D3))) (d5 : o5.data = .cell (some (.ref D5))) (d8 : o8.data = .cell v8) (hD3 : (D3, listOf us3.toArray n3) ∈ rs) (hI3 : IntsAre us3 bs) (hD5 : (D5, listOf us5.toArray n5) ∈ rs) (hI5 : IntsAre us5 fs)
    (hb : 2 ≤ b ∧ b ≤ 3) (hP3 : Parts bs) (hP5 : Parts fs)
    (hq : ∀ D8 us8 n8 h' tk' o8, Fr g L h' m → News g L h' ((L + 1 + 1 + 1 + 1 + 1 + 1 + 1 + 1, o8) :: (L + 1 + 1 + 1 + 1 + 1 + 1 + 1, o7) :: (L + 1 + 1 + 1 + 1 + 1 + 1, o6) :: (L + 1 + 1 + 1 + 1 + 1, o5) :: (L + 1 + 1 + 1 + 1, o4) :: (L + 1 + 1 + 1, o3) :: (L + 1 + 1, o2) :: (L + 1, o1) :: (D8, listOf (List.toArray us8) n8) :: rs) → OwnOff ((D8, listOf (List.toArray us8) n8) :: rs) [L + 1 + 1 + 1 + 1 + 1 + 1 + 1 + 1, L + 1 + 1 + 1 + 1 + 1 + 1 + 1, L + 1 + 1 + 1 + 1 + 1 + 1, L + 1 + 1 + 1 + 1 + 1, L + 1 + 1 + 1 + 1, L + 1 + 1 + 1, L + 1 + 1, L + 1] → o8.data = .cell (some (.ref D8)) → IntsAre us8 ((rangeKs 1 6).map (fun k => excessP k b fs bs)) → Q .next { s with heap := h', toks := tk' }) :
    wpAny (model PySem.Challenge.rw_wo0041_01.row.prog w) (lawA w.params dp un gd L fa cdv outer) (exec (lawP w.params).1.s18 (lawEnv w.params L fa cdv)) Q (fun _ _ => False) { s with heap := h, toks := tk } := by
  k_with "CS" => (refine LCg.CompSrc.range (by rfl) (by k_asm) (by k_asm) (by assumption) (small_one (by decide) (by decide) (by decide) (by decide)) (n := 6) (by rw [rangeSize_nat]; rfl) (by decide) ?_; intro g'; refine' comp_range (fun k y => ∃ t, y = Value.int (excessP k b fs bs) t) (fun k t I oI C oC D9 m₂ ys h tk E' hlo hhi hC hx F N off ne => ?_) ?_; (all_goals (try k_fold)))
  k_with "UL" => ((rename Fr _ _ _ _ => lF); (rename News _ _ _ _ => lN); (refine' use (excess_spec k b _ _ D5 D3 us5 us3 fs bs (by omega) (by omega)) B' lF X' T' lN rfl ?u1 ?u2 ⟨lN.isList (by kst_mem), hI5, lN.isList (by kst_mem), hI3, by have := hP5.1; omega, by have := hP3.1; omega⟩ ?_; (case u1 => ktr_room); (case u2 => ktr_units); intro v h tk F N st po; obtain ⟨t8, rfl⟩ := po; clear st lF lN; (try k_fold)))
  unfold lawA lawEnv lawP
  dsimp only
  k_steps
  k_with_none
  · exact LCg.CompEnd.intro (by assumption) (by assumption) _ (fun p hp => hp) off trivial ⟨rfl, _, rfl⟩
  · rename Each _ _ _ => hE
    rename News _ _ _ _ => N2
    rename _ ∧ _ => l1
    have l2 : LCg.Off1 _ ((L + 1 + 1 + 1 + 1 + 1 + 1 + 1 + 1, o8) :: (L + 1 + 1 + 1 + 1 + 1 + 1 + 1, o7) :: (L + 1 + 1 + 1 + 1 + 1 + 1, o6) :: (L + 1 + 1 + 1 + 1 + 1, o5) :: (L + 1 + 1 + 1 + 1, o4) :: (L + 1 + 1 + 1, o3) :: (L + 1 + 1, o2) :: (L + 1, o1) :: rs) := l1
    exact hq _ _ _ _ _ _ (by assumption) (move8 N2) (own_new (offD1 l2) hrs) (by assumption) (Each.ints hE)
end
end D
end SCA7
section SCA8
theorem nilCA8 : True := by
  k_with_none
  w_top off
  trivial
section D
section
variable {w : World} {mean : ExcName → Option Value} {mg mb : Str → Option Value} {dp un : Nat} {gd : Option (List Code)} {fa : Addr} {cdv : Value} {outer : List Env} {A₀ : Around} {base g : Heap} {L : Addr} {m : Str → Option Value} {s : Shared} {h : Heap} {tk : Nat} {Q : Flow → Shared → Prop} {E : Value → Shared → Prop}
  {o1 o2 o3 o4 o5 o6 o7 o8 : Obj} {rs : List (Addr × Obj)}
theorem st19 {D8 : Addr} {us8 : List Value} {n8 : Nat} {xs : List Int} {pt : Int} (B' : Below A₀ base outer g) (X' : (hd.heap_39 w.params).In g) (T' : Top hd.view_39 LS mean mg mb g) (hd : dp + 20 < recursionLimit) (hu : un + 400 < cLine)
    (F : Fr g L h m) (N : News g L h ((L + 1 + 1 + 1 + 1 + 1 + 1 + 1 + 1, o8) :: (L + 1 + 1 + 1 + 1 + 1 + 1 + 1, o7) :: (L + 1 + 1 + 1 + 1 + 1 + 1, o6) :: (L + 1 + 1 + 1 + 1 + 1, o5) :: (L + 1 + 1 + 1 + 1, o4) :: (L + 1 + 1 + 1, o3) :: (L + 1 + 1, o2) :: (L + 1, o1) :: rs)) (hrs : OwnOff rs [L + 1 + 1 + 1 + 1 + 1 + 1 + 1 + 1, L + 1 + 1 + 1 + 1 + 1 + 1 + 1, L + 1 + 1 + 1 + 1 + 1 + 1, L + 1 + 1 + 1 + 1 + 1, L + 1 + 1 + 1 + 1, L + 1 + 1 + 1, L + 1 + 1, L + 1]) (d8 : o8.data = .cell (some (.ref D8))) (hD8 : (D8, listOf us8.toArray n8) ∈ rs) (hI8 : IntsAre us8 xs) (hx6 : xs.length = 6)
    (hpt : ∀ M, M ∈ (rangeKs 1 6).filter (fun k => !(xs.getD (k - 1).toNat 0 == 0)) ++ [7] → (∀ a, a ∈ (rangeKs 1 6).filter (fun k => !(xs.getD (k - 1).toNat 0 == 0)) ++ [7] → M ≤ a) → M = pt)
    (hq : ∀ h' tk' t, Fr g L h' (fun z => if z = Str.ofString "parting" then some (.int pt t) else m z) → News g L h' ((L + 1 + 1 + 1 + 1 + 1 + 1 + 1 + 1, o8) :: (L + 1 + 1 + 1 + 1 + 1 + 1 + 1, o7) :: (L + 1 + 1 + 1 + 1 + 1 + 1, o6) :: (L + 1 + 1 + 1 + 1 + 1, o5) :: (L + 1 + 1 + 1 + 1, o4) :: (L + 1 + 1 + 1, o3) :: (L + 1 + 1, o2) :: (L + 1, o1) :: rs) → Q .next { s with heap := h', toks := tk' }) :
    wpAny (model PySem.Challenge.rw_wo0041_01.row.prog w) (lawA w.params dp un gd L fa cdv outer) (exec (lawP w.params).1.s19 (lawEnv w.params L fa cdv)) Q (fun _ _ => False) { s with heap := h, toks := tk } := by
  k_with "CST" => (refine LCt.CompSrcT.range (by rfl) (by k_asm) (by k_asm) (by assumption) (small_one (by decide) (by decide) (by decide) (by decide)) (n := 6) (by rw [rangeSize_nat]; rfl) (by decide) ?_; intro g'; refine' comp_rangeT (fun k => !(xs.getD (k - 1).toNat 0 == 0)) (fun k y => ∃ t, y = Value.int k t) (fun k t I oI C oC D m₂ ys h tk E' hlo hhi hC hx F N off ne => ?_) ?_; (all_goals (try k_fold)))
  k_with "SUBX" => (refine item_list_ints (News.isList (by assumption) (by kst_mem)) hI8 (by omega) (by omega) (by omega) ?_; intro t9)
  k_with "CAT" => (refine' kmk_add_ints ?F9 ?N9 ?a9 ?b9 (each_ints (by assumption)) (.cons _ _ .nil) ?_ ?z9; (case F9 => k_asm); (case N9 => k_asm); (case a9 => is_list); (case b9 => is_list); (case z9 => (have e9 := List.length_filter_le (fun k => !(xs.getD (k - 1).toNat 0 == 0)) (rangeKs 1 6); rw [rangeKs_length] at e9; rw [PySem.sizeLine_eq]; simp only [List.length_cons, List.length_nil]; omega)); intro D9 ws9 h9 F9 N9 l9 hI9)
  k_with "MIN" => (refine' kso_min ?F9 ?N9 ?a9 hI9 ?p9 ?h9 ?_; (case F9 => k_asm); (case N9 => k_asm); (case a9 => is_list); (case p9 => simp); (case h9 => rfl); intro h9 M9 t9 tk9 F9 N9 hM1 hM2; have eM9 := hpt M9 hM1 hM2; subst eM9)
  unfold lawA lawEnv lawP
  dsimp only
  k_steps
  k_with_none
  · exact LCg.CompEnd.intro (by assumption) (by assumption) _ (fun p hp => hp) off trivial ⟨rfl, by rw [beq_eq_false_iff_ne.mpr (by assumption)]; rfl, _, rfl⟩
  · exact LCg.CompEnd.intro (by assumption) (by assumption) _ (fun p hp => hp) off trivial ⟨rfl, by rw [beq_iff_eq.mpr (by assumption)]; rfl⟩
  · exact hq _ _ _ (by assumption) (fun p hp => (by assumption : News _ _ _ _) p ((show ∀ p ∈ (L + 1 + 1 + 1 + 1 + 1 + 1 + 1 + 1, o8) :: (L + 1 + 1 + 1 + 1 + 1 + 1 + 1, o7) :: (L + 1 + 1 + 1 + 1 + 1 + 1, o6) :: (L + 1 + 1 + 1 + 1 + 1, o5) :: (L + 1 + 1 + 1 + 1, o4) :: (L + 1 + 1 + 1, o3) :: (L + 1 + 1, o2) :: (L + 1, o1) :: rs, _ by kst_in) p hp))
theorem st20 {D7 : Addr} {us7 : List Value} {n7 : Nat} {gs : List Str} (B' : Below A₀ base outer g) (X' : (hd.heap_39 w.params).In g) (T' : Top hd.view_39 LS mean mg mb g) (hd : dp + 20 < recursionLimit) (hu : un + 400 < cLine)
    (F : Fr g L h m) (N : News g L h ((L + 1 + 1 + 1 + 1 + 1 + 1 + 1 + 1, o8) :: (L + 1 + 1 + 1 + 1 + 1 + 1 + 1, o7) :: (L + 1 + 1 + 1 + 1 + 1 + 1, o6) :: (L + 1 + 1 + 1 + 1 + 1, o5) :: (L + 1 + 1 + 1 + 1, o4) :: (L + 1 + 1 + 1, o3) :: (L + 1 + 1, o2) :: (L + 1, o1) :: rs)) (hrs : OwnOff rs [L + 1 + 1 + 1 + 1 + 1 + 1 + 1 + 1, L + 1 + 1 + 1 + 1 + 1 + 1 + 1, L + 1 + 1 + 1 + 1 + 1 + 1, L + 1 + 1 + 1 + 1 + 1, L + 1 + 1 + 1 + 1, L + 1 + 1 + 1, L + 1 + 1, L + 1]) (d7 : o7.data = .cell (some (.ref D7))) (hD7 : (D7, listOf us7.toArray n7) ∈ rs) (hS7 : StrsAre us7 gs) (hok : (gs.map (·.length)).sum + gs.length * (Str.ofString ",").length ≤ 16777216)
    (hq : ∀ h' tk' t, Fr g L h' (fun z => if z = Str.ofString "page" then some (.str (Txt.join (Str.ofString ",") gs) t) else m z) → News g L h' ((L + 1 + 1 + 1 + 1 + 1 + 1 + 1 + 1, o8) :: (L + 1 + 1 + 1 + 1 + 1 + 1 + 1, o7) :: (L + 1 + 1 + 1 + 1 + 1 + 1, o6) :: (L + 1 + 1 + 1 + 1 + 1, o5) :: (L + 1 + 1 + 1 + 1, o4) :: (L + 1 + 1 + 1, o3) :: (L + 1 + 1, o2) :: (L + 1, o1) :: rs) → Q .next { s with heap := h', toks := tk' }) :
    wpAny (model PySem.Challenge.rw_wo0041_01.row.prog w) (lawA w.params dp un gd L fa cdv outer) (exec (lawP w.params).1.s20 (lawEnv w.params L fa cdv)) Q (fun _ _ => False) { s with heap := h, toks := tk } := by
  k_with "JOIN" => (refine join_list (News.isList (by assumption) (by kst_mem)) hS7 hok ?_; intro t9 k9)
  unfold lawA lawEnv lawP
  dsimp only
  k_steps
  k_with_none
  exact hq _ _ _ (by assumption) (by assumption)
theorem st23 {D4 D5 : Addr} {us4 us5 : List Value} {n4 n5 : Nat} {ps fs : List Int} (B' : Below A₀ base outer g) (X' : (hd.heap_39 w.params).In g) (T' : Top hd.view_39 LS mean mg mb g) (hd : dp + 20 < recursionLimit) (hu : un + 400 < cLine)
    (F : Fr g L h m) (N : News g L h ((L + 1 + 1 + 1 + 1 + 1 + 1 + 1 + 1, o8) :: (L + 1 + 1 + 1 + 1 + 1 + 1 + 1, o7) :: (L + 1 + 1 + 1 + 1 + 1 + 1, o6) :: (L + 1 + 1 + 1 + 1 + 1, o5) :: (L + 1 + 1 + 1 + 1, o4) :: (L + 1 + 1 + 1, o3) :: (L + 1 + 1, o2) :: (L + 1, o1) :: rs)) (hrs : OwnOff rs [L + 1 + 1 + 1 + 1 + 1 + 1 + 1 + 1, L + 1 + 1 + 1 + 1 + 1 + 1 + 1, L + 1 + 1 + 1 + 1 + 1 + 1, L + 1 + 1 + 1 + 1 + 1, L + 1 + 1 + 1 + 1, L + 1 + 1 + 1, L + 1 + 1, L + 1]) (d4 : o4.data = .cell (some (.ref D4))) (d5 : o5.data = .cell (some (.ref D5))) (hD4 : (D4, listOf us4.toArray n4) ∈ rs) (hI4 : IntsAre us4 ps) (hD5 : (D5, listOf us5.toArray n5) ∈ rs) (hI5 : IntsAre us5 fs)
    (hP4 : Parts ps) (hP5 : Parts fs) (hl1 : (shortS fs).length < 100000) (hl2 : (longS ps).length < 100000) (hE : ellP (shortS fs) (longS ps) = some (takesP fs ps))
    (hq : ∀ h' tk', Fr g L h' m → News g L h' ((L + 1 + 1 + 1 + 1 + 1 + 1 + 1 + 1, o8) :: (L + 1 + 1 + 1 + 1 + 1 + 1 + 1, o7) :: (L + 1 + 1 + 1 + 1 + 1 + 1, o6) :: (L + 1 + 1 + 1 + 1 + 1, o5) :: (L + 1 + 1 + 1 + 1, o4) :: (L + 1 + 1 + 1, o3) :: (L + 1 + 1, o2) :: (L + 1, o1) :: rs) → Q .next { s with heap := h', toks := tk' }) :
    wpAny (model PySem.Challenge.rw_wo0041_01.row.prog w) (lawA w.params dp un gd L fa cdv outer) (exec (lawP w.params).1.s23 (lawEnv w.params L fa cdv)) Q (fun _ _ => False) { s with heap := h, toks := tk } := by
  k_with "UL" => ((rename Fr _ _ _ _ => lF); (rename News _ _ _ _ => lN); first
    | (refine' use (short_spec D5 us5 fs hP5) B' lF X' T' lN rfl ?u1 ?u2 ⟨lN.isList (by kst_mem), hI5⟩ ?_; (case u1 => omega); (case u2 => omega); intro v h tk F N st po; obtain ⟨t8, rfl⟩ := po; clear st lF lN; (try k_fold))
    | (refine' use (long_spec D4 us4 ps hP4) B' lF X' T' lN rfl ?u1 ?u2 ⟨lN.isList (by kst_mem), hI4⟩ ?_; (case u1 => omega); (case u2 => omega); intro v h tk F N st po; obtain ⟨t8, rfl⟩ := po; clear st lF lN; (try k_fold))
    | (refine' use (ell_spec _ _ _ _ _ hl1 hl2 hE) B' lF X' T' lN rfl ?u1 ?u2 trivial ?_; (case u1 => omega); (case u2 => omega); intro v h tk F N st po; subst po; clear st lF lN; (try k_fold))
    | (refine' use (takes_spec D5 D4 us5 us4 fs ps hP5.1 hP4.1) B' lF X' T' lN rfl ?u1 ?u2 ⟨lN.isList (by kst_mem), hI5, lN.isList (by kst_mem), hI4⟩ ?_; (case u1 => omega); (case u2 => omega); intro v h tk F N st po; subst po; clear st lF lN; (try k_fold)))
  unfold lawA lawEnv lawP
  dsimp only
  k_steps
  k_with_none
  · rename (_ != _) = true => hx9
    rw [bne_self_eq_false] at hx9
    cases hx9
  · exact hq _ _ (by assumption) (fun p hp => (by assumption : News _ _ _ _) p ((show ∀ p ∈ (L + 1 + 1 + 1 + 1 + 1 + 1 + 1 + 1, o8) :: (L + 1 + 1 + 1 + 1 + 1 + 1 + 1, o7) :: (L + 1 + 1 + 1 + 1 + 1 + 1, o6) :: (L + 1 + 1 + 1 + 1 + 1, o5) :: (L + 1 + 1 + 1 + 1, o4) :: (L + 1 + 1 + 1, o3) :: (L + 1 + 1, o2) :: (L + 1, o1) :: rs, _ by kst_in) p hp))
theorem st24 {D4 D5 : Addr} {us4 us5 : List Value} {n4 n5 : Nat} {ps fs : List Int} (B' : Below A₀ base outer g) (X' : (hd.heap_39 w.params).In g) (T' : Top hd.view_39 LS mean mg mb g) (hd : dp + 20 < recursionLimit) (hu : un + 400 < cLine)
    (F : Fr g L h m) (N : News g L h ((L + 1 + 1 + 1 + 1 + 1 + 1 + 1 + 1, o8) :: (L + 1 + 1 + 1 + 1 + 1 + 1 + 1, o7) :: (L + 1 + 1 + 1 + 1 + 1 + 1, o6) :: (L + 1 + 1 + 1 + 1 + 1, o5) :: (L + 1 + 1 + 1 + 1, o4) :: (L + 1 + 1 + 1, o3) :: (L + 1 + 1, o2) :: (L + 1, o1) :: rs)) (hrs : OwnOff rs [L + 1 + 1 + 1 + 1 + 1 + 1 + 1 + 1, L + 1 + 1 + 1 + 1 + 1 + 1 + 1, L + 1 + 1 + 1 + 1 + 1 + 1, L + 1 + 1 + 1 + 1 + 1, L + 1 + 1 + 1 + 1, L + 1 + 1 + 1, L + 1 + 1, L + 1]) (d4 : o4.data = .cell (some (.ref D4))) (d5 : o5.data = .cell (some (.ref D5))) (hD4 : (D4, listOf us4.toArray n4) ∈ rs) (hI4 : IntsAre us4 ps) (hD5 : (D5, listOf us5.toArray n5) ∈ rs) (hI5 : IntsAre us5 fs)
    (hP4 : Parts ps) (hP5 : Parts fs) (hl1 : (shortS ps).length < 100000) (hl2 : (longS fs).length < 100000) (hE : ellP (shortS ps) (longS fs) = some (takesP ps fs))
    (hq : ∀ h' tk', Fr g L h' m → Q (.ret (.bool true)) { s with heap := h', toks := tk' }) :
    wpAny (model PySem.Challenge.rw_wo0041_01.row.prog w) (lawA w.params dp un gd L fa cdv outer) (exec (lawP w.params).1.s24 (lawEnv w.params L fa cdv)) Q (fun _ _ => False) { s with heap := h, toks := tk } := by
  k_with "UL" => ((rename Fr _ _ _ _ => lF); (rename News _ _ _ _ => lN); first
    | (refine' use (short_spec D4 us4 ps hP4) B' lF X' T' lN rfl ?u1 ?u2 ⟨lN.isList (by kst_mem), hI4⟩ ?_; (case u1 => omega); (case u2 => omega); intro v h tk F N st po; obtain ⟨t8, rfl⟩ := po; clear st lF lN; (try k_fold))
    | (refine' use (long_spec D5 us5 fs hP5) B' lF X' T' lN rfl ?u1 ?u2 ⟨lN.isList (by kst_mem), hI5⟩ ?_; (case u1 => omega); (case u2 => omega); intro v h tk F N st po; obtain ⟨t8, rfl⟩ := po; clear st lF lN; (try k_fold))
    | (refine' use (ell_spec _ _ _ _ _ hl1 hl2 hE) B' lF X' T' lN rfl ?u1 ?u2 trivial ?_; (case u1 => omega); (case u2 => omega); intro v h tk F N st po; subst po; clear st lF lN; (try k_fold))
    | (refine' use (takes_spec D4 D5 us4 us5 ps fs hP4.1 hP5.1) B' lF X' T' lN rfl ?u1 ?u2 ⟨lN.isList (by kst_mem), hI4, lN.isList (by kst_mem), hI5⟩ ?_; (case u1 => omega); (case u2 => omega); intro v h tk F N st po; subst po; clear st lF lN; (try k_fold)))
  unfold lawA lawEnv lawP
  dsimp only
  k_steps
  k_with_none
  rw [beq_self_eq_true]
  exact hq _ _ (by assumption)
end
end D
end SCA8
section SCA9
theorem nilCA9 : True := by
  k_with_none
  w_top off
  trivial
theorem strs_from {vs : List Value} {gs : List Str} {x : Int} (hS : StrsAre vs gs) (h : 0 ≤ x) : StrsAre (slicePick vs.toArray (some x) none none).toList (gs.drop x.toNat) := by
  have e : sliceBounds (some x) none none vs.toArray.size = (((min x.toNat vs.toArray.size : Nat) : Int), ((vs.toArray.size : Nat) : Int), 1) := by
    simp only [sliceBounds, Option.getD_none, show (1 : Int) > 0 by decide, if_true, if_neg (show ¬ (x < 0) by omega)]
    congr 1
    omega
  rw [kmk_pick_nat _ e]
  show StrsAre ((vs.drop (min x.toNat vs.toArray.size)).take (vs.toArray.size - min x.toNat vs.toArray.size)) _
  rw [List.size_toArray, kmk_drop_min, List.take_of_length_le (by rw [List.length_drop]; omega)]
  exact hS.drop' _
theorem slice_strs {prog : Program} {w : World} {A : Around} {E : Value → Shared → Prop} {s : Shared} {h₀ : Heap} {L l : Addr} {m : Str → Option Value} {news : List (Addr × Obj)} {value slice : PySem.Expr} {vs : List Value} {gs : List Str} {vl vu : Value} {x : Int} {Q : Value → Shared → Prop}
    (F : Fr h₀ L s.heap m) (N : News h₀ L s.heap news) (hl : s.heap.IsList l vs.toArray) (pl : IsPart vl (some x)) (pu : IsPart vu none) (hS : StrsAre vs gs) (hx : 0 ≤ x)
    (h : ∀ D ws h', Fr h₀ L h' m → News h₀ L h' ((D, listOf (List.toArray ws) 0) :: news) → (∀ p ∈ news, p.1 < D) → StrsAre ws (gs.drop x.toNat) → Q (.ref D) { s with heap := h' })
    (hs : subscripted slice false (.ref l) (.ref s.heap.objs.size) = operate [.ref s.heap.objs.size, .ref l] (getItem (.ref l) (.ref s.heap.objs.size))) (ht : ∀ r, letTemporaryGo value (.ref l) r = pure ()) (hz : vs.toArray.size ≤ sizeLine) :
    wpAny (model prog w) A (subscriptTail value slice (.ref l) (.ref s.heap.objs.size)) Q E { s with heap := s.heap.push { cls := .type "slice", data := .fields #[vl, vu, .none] } } := by
  refine kmk_slice F N hl pl pu (fun D h' F' N' l1 => h D (slicePick vs.toArray (some x) none none).toList h' F' ?_ l1 (strs_from hS hx)) hs ht hz
  rw [Array.toArray_toList]
  exact N'
section D
section
variable {w : World} {mean : ExcName → Option Value} {mg mb : Str → Option Value} {dp un : Nat} {gd : Option (List Code)} {fa : Addr} {cdv : Value} {outer : List Env} {A₀ : Around} {base g : Heap} {L : Addr} {m : Str → Option Value} {s : Shared} {h : Heap} {tk : Nat} {Q : Flow → Shared → Prop} {E : Value → Shared → Prop}
  {o1 o2 o3 o4 o5 o6 o7 o8 : Obj} {rs : List (Addr × Obj)}
theorem st21 {D6 : Addr} {us6 : List Value} {n6 : Nat} {gs : List Str} {page : Str} {tp tt : Tok} {pt : Int} (B' : Below A₀ base outer g) (X' : (hd.heap_39 w.params).In g) (T' : Top hd.view_39 LS mean mg mb g) (hd : dp + 20 < recursionLimit) (hu : un + 400 < cLine)
    (F : Fr g L h m) (N : News g L h ((L + 1 + 1 + 1 + 1 + 1 + 1 + 1 + 1, o8) :: (L + 1 + 1 + 1 + 1 + 1 + 1 + 1, o7) :: (L + 1 + 1 + 1 + 1 + 1 + 1, o6) :: (L + 1 + 1 + 1 + 1 + 1, o5) :: (L + 1 + 1 + 1 + 1, o4) :: (L + 1 + 1 + 1, o3) :: (L + 1 + 1, o2) :: (L + 1, o1) :: rs)) (hrs : OwnOff rs [L + 1 + 1 + 1 + 1 + 1 + 1 + 1 + 1, L + 1 + 1 + 1 + 1 + 1 + 1 + 1, L + 1 + 1 + 1 + 1 + 1 + 1, L + 1 + 1 + 1 + 1 + 1, L + 1 + 1 + 1 + 1, L + 1 + 1 + 1, L + 1 + 1, L + 1]) (d6 : o6.data = .cell (some (.ref D6))) (hD6 : (D6, listOf us6.toArray n6) ∈ rs) (hS6 : StrsAre us6 gs) (hgl : gs.length = 9) (hpg : m (Str.ofString "page") = some (.str page tp)) (hpa : m (Str.ofString "parting") = some (.int pt tt))
    (hpl : page.length < 100000) (hgl2 : ∀ k : Nat, ((gs.drop k).map (·.length)).sum ≤ 1000) (hjl : ∀ k : Nat, (Txt.join (Str.ofString ",") (gs.drop k)).length ≤ 1000)
    (hE : ∀ j : Int, 1 ≤ j → j < 8 → ellP (Str.ofString "...," ++ Txt.join (Str.ofString ",") (gs.drop (8 - j).toNat)) page = some (decide (j ≤ pt)))
    (hq : ∀ h' tk' m', Fr g L h' m' → (∀ z, z ≠ Str.ofString "j" → m' z = m z) → News g L h' ((L + 1 + 1 + 1 + 1 + 1 + 1 + 1 + 1, o8) :: (L + 1 + 1 + 1 + 1 + 1 + 1 + 1, o7) :: (L + 1 + 1 + 1 + 1 + 1 + 1, o6) :: (L + 1 + 1 + 1 + 1 + 1, o5) :: (L + 1 + 1 + 1 + 1, o4) :: (L + 1 + 1 + 1, o3) :: (L + 1 + 1, o2) :: (L + 1, o1) :: rs) → Q .next { s with heap := h', toks := tk' }) :
    wpAny (model PySem.Challenge.rw_wo0041_01.row.prog w) (lawA w.params dp un gd L fa cdv outer) (exec (lawP w.params).1.s21 (lawEnv w.params L fa cdv)) Q (fun _ _ => False) { s with heap := h, toks := tk } := by
  have eM := at1 (at1 rfl hpa) hpg
  replace F := fr_fwd eM F
  k_with "LE" => (refine Stop.go ?_)
  k_with "LOOP" => ((rename Fr _ _ _ _ => lF); (rename News _ _ _ _ => lN); (rename IsRange _ _ _ _ _ _ _ _ => lR); (refine' kst_range (σ := Unit) (n := 7) (fun _ => (L + 1 + 1 + 1 + 1 + 1 + 1 + 1 + 1, o8) :: (L + 1 + 1 + 1 + 1 + 1 + 1 + 1, o7) :: (L + 1 + 1 + 1 + 1 + 1 + 1, o6) :: (L + 1 + 1 + 1 + 1 + 1, o5) :: (L + 1 + 1 + 1 + 1, o4) :: (L + 1 + 1 + 1, o3) :: (L + 1 + 1, o2) :: (L + 1, o1) :: rs) (fun _ => []) (fun _ => True) [] (fun _ _ => True) () (by rfl) lR ?sm ?rs lF lN trivial ?kk trivial ?turn ?done); (case kk => (intro p hp; cases hp)); (case sm => exact small_one (by decide) (by decide) (by decide) (by decide)); (case rs => (rw [rangeSize_nat]; rfl)); clear lF lN; (case' turn => (rintro ⟨⟩ pre k t u h tk own hk9 hlt9 ho _ _ F N; have hk1 : 1 ≤ k := (by omega); have hk7 : k < 8 := (by omega); (try k_unmd); (try k_fold))); (case' done => (rintro ⟨⟩ u h tk _ _ F N; (try k_unmd); (try k_fold))))
  have ec : (Str.ofString ",").length = 1 := by decide +kernel
  have ec2 : (Str.ofString "...,").length = 4 := by decide +kernel
  k_with "SLI" => (refine' slice_strs ?F9 ?N9 ?l9 ?p9 ?q9 hS6 ?x9 ?_ ?s9 ?t9 ?z9; (case F9 => k_asm); (case N9 => k_asm); (case l9 => exact News.isList (by assumption) (by kst_mem)); (case p9 => kmk_part); (case q9 => kmk_part); (case x9 => omega); (case z9 => (rw [PySem.sizeLine_eq, List.size_toArray, hS6.length]; omega)); (case s9 => with_unfolding_all rfl); (case t9 => kmk_pure); intro D9 ws9 h9 F9 N9 l9 hS9; clear l9)
  k_with "JOIN" => (have hg9 := hgl2 (8 - k).toNat; have hj9 := hjl (8 - k).toNat; refine join_list (by is_list) hS9 (by rw [ec, List.length_drop]; omega) ?_; intro t9 k9)
  k_with "ADD" => (refine add_str ?_ (by rw [ec2, PySem.sizeLine_eq]; omega); intro t9 k9)
  k_with "UL" => ((rename Fr _ _ _ _ => lF); (rename News _ _ _ _ => lN); (refine' use (ell_spec _ _ _ _ _ ?h1 hpl (hE k hk1 hk7)) B' lF X' T' lN rfl ?u1 ?u2 trivial ?_; (case h1 => (rw [PySem.strLen_append, ec2]; omega)); (case u1 => omega); (case u2 => omega); intro v h tk F N st po; subst po; clear st lF lN; (try k_fold)))
  unfold lawA lawEnv lawP
  dsimp only
  k_steps
  k_with_none
  · refine hq _ _ _ F (fun z h1 => ?_) N
    rw [← congrFun eM z]
    simp [kstB, h1]
  · rename (_ != _) = true => hx9
    rw [bne_self_eq_false] at hx9
    cases hx9
  · unfold Stop
    rename News _ _ _ _ => N9
    refine' kst_end () (by assumption) N9 ?c1 ?c2 rfl trivial ?c3 ?c4 trivial
    case c1 => kst_in
    case c2 => (intro p hp; kst_mem)
    case c3 => (intro p hp; cases hp)
    case c4 => (intro z h1 h2 h3; simp [kstB, h1])
end
end D
end SCA9
section SCA10
theorem nilCA10 : True := by
  k_with_none
  w_top off
  trivial
section D
section
variable {w : World} {mean : ExcName → Option Value} {mg mb : Str → Option Value} {dp un : Nat} {gd : Option (List Code)} {fa : Addr} {cdv : Value} {outer : List Env} {A₀ : Around} {base g : Heap} {L : Addr} {m : Str → Option Value} {s : Shared} {h : Heap} {tk : Nat} {Q : Flow → Shared → Prop} {E : Value → Shared → Prop}
  {o1 o2 o3 o4 o5 o6 o7 o8 : Obj} {rs : List (Addr × Obj)}
theorem st22 {D8 Dt : Addr} {us8 ust : List Value} {n8 nt : Nat} {xs ns : List Int} {page : Str} {tp tt tn tu : Tok} {pt Nn U : Int} (B' : Below A₀ base outer g) (X' : (hd.heap_39 w.params).In g) (T' : Top hd.view_39 LS mean mg mb g) (hd : dp + 20 < recursionLimit) (hu : un + 400 < cLine)
    (F : Fr g L h m) (N : News g L h ((L + 1 + 1 + 1 + 1 + 1 + 1 + 1 + 1, o8) :: (L + 1 + 1 + 1 + 1 + 1 + 1 + 1, o7) :: (L + 1 + 1 + 1 + 1 + 1 + 1, o6) :: (L + 1 + 1 + 1 + 1 + 1, o5) :: (L + 1 + 1 + 1 + 1, o4) :: (L + 1 + 1 + 1, o3) :: (L + 1 + 1, o2) :: (L + 1, o1) :: rs)) (hrs : OwnOff rs [L + 1 + 1 + 1 + 1 + 1 + 1 + 1 + 1, L + 1 + 1 + 1 + 1 + 1 + 1 + 1, L + 1 + 1 + 1 + 1 + 1 + 1, L + 1 + 1 + 1 + 1 + 1, L + 1 + 1 + 1 + 1, L + 1 + 1 + 1, L + 1 + 1, L + 1]) (d8 : o8.data = .cell (some (.ref D8))) (hD8 : (D8, listOf us8.toArray n8) ∈ rs) (hI8 : IntsAre us8 xs) (hx6 : xs.length = 6) (hDt : (Dt, listOf ust.toArray nt) ∈ rs) (hIt : IntsAre ust ns)
    (hpg : m (Str.ofString "page") = some (.str page tp)) (hpa : m (Str.ofString "parting") = some (.int pt tt)) (hnm : m (Str.ofString "number") = some (.int Nn tn)) (hun : m (Str.ofString "unit") = some (.int U tu)) (htd : m (Str.ofString "told") = some (.ref Dt))
    (hp1 : 1 ≤ pt) (hpl : page.length < 100000) (hU : U.natAbs < 2 ^ 64) (hn : 0 < ns.length) (hn2 : ns.length < 100) (hsz : ∀ x ∈ ns, 1 ≤ x ∧ x ≤ 9)
    (hE : pt < 7 → ∃ N2, Nn - xs.getD (pt - 1).toNat 0 * U ^ pt.toNat = N2 ∧ 0 ≤ N2 ∧ fit N2 = true ∧ fit (xs.getD (pt - 1).toNat 0) = true ∧ fit (U ^ pt.toNat) = true ∧ (groupsS N2 ns).length = 9 ∧ (((groupsS N2 ns).drop (7 - pt).toNat).map (·.length)).sum ≤ 1000 ∧ (Txt.join (Str.ofString ",") ((groupsS N2 ns).drop (7 - pt).toNat)).length ≤ 1000 ∧
      ellP (Str.ofString "...," ++ Txt.join (Str.ofString ",") ((groupsS N2 ns).drop (7 - pt).toNat)) page = some true)
    (hq : ∀ h' tk' m', Fr g L h' m' → (∀ z, z ≠ Str.ofString "evened" → m' z = m z) → News g L h' ((L + 1 + 1 + 1 + 1 + 1 + 1 + 1 + 1, o8) :: (L + 1 + 1 + 1 + 1 + 1 + 1 + 1, o7) :: (L + 1 + 1 + 1 + 1 + 1 + 1, o6) :: (L + 1 + 1 + 1 + 1 + 1, o5) :: (L + 1 + 1 + 1 + 1, o4) :: (L + 1 + 1 + 1, o3) :: (L + 1 + 1, o2) :: (L + 1, o1) :: rs) → Q .next { s with heap := h', toks := tk' }) :
    wpAny (model PySem.Challenge.rw_wo0041_01.row.prog w) (lawA w.params dp un gd L fa cdv outer) (exec (lawP w.params).1.s22 (lawEnv w.params L fa cdv)) Q (fun _ _ => False) { s with heap := h, toks := tk } := by
  have eM := at1 (at1 (at1 (at1 (at1 rfl htd) hun) hnm) hpa) hpg
  replace F := fr_fwd eM F
  have ec : (Str.ofString ",").length = 1 := by decide +kernel
  have ec2 : (Str.ofString "...,").length = 4 := by decide +kernel
  by_cases hp7 : pt < 7
  · obtain ⟨N2, eN, hN0, hN1, hf1, hf2, hgl, hgs, hgj, hEe⟩ := hE hp7
    k_with "SUBX" => (refine item_list_ints (News.isList (by assumption) (by kst_mem)) hI8 (by omega) (by omega) (by omega) ?_; intro t9)
    k_with "POW" => (refine pow_int_small (by omega) (by omega) (by assumption) ?_)
    k_with "MUL" => (refine mul_int ?_ (fitMul hf1 hf2))
    k_with "SLI" => (refine' slice_strs ?F9 ?N9 ?l9 ?p9 ?q9 hS8 ?x9 ?_ ?s9 ?t9 ?z9; (case F9 => k_asm); (case N9 => k_asm); (case l9 => is_list); (case p9 => kmk_part); (case q9 => kmk_part); (case x9 => omega); (case z9 => (rw [PySem.sizeLine_eq, List.size_toArray, hS8.length]; omega)); (case s9 => with_unfolding_all rfl); (case t9 => kmk_pure); intro D9 ws9 h9 F9 N9 l9 hS9; clear l9)
    k_with "JOIN" => (refine join_list (by is_list) hS9 (by rw [ec, List.length_drop]; omega) ?_; intro t9 k9)
    k_with "ADD" => (refine add_str ?_ (by rw [ec2, PySem.sizeLine_eq]; omega); intro t9 k9)
    k_with "UL" => ((rename Fr _ _ _ _ => lF); (rename News _ _ _ _ => lN); first
      | (rw [eN]; refine' useL (groups_spec N2 _ Dt ust ns hN0 hN1 hn hn2 hsz) B' lF X' T' lN rfl ?u1 ?u2 ⟨lN.isList (by kst_mem), hIt⟩ ?_; (case u1 => omega); (case u2 => omega); intro D5 us5 n5 h tk F N off5 ne5 hS8; clear lF lN; (try k_fold))
      | (refine' use (ell_spec _ _ _ _ _ ?h1 hpl hEe) B' lF X' T' lN rfl ?u1 ?u2 trivial ?_; (case h1 => (rw [PySem.strLen_append, ec2]; omega)); (case u1 => omega); (case u2 => omega); intro v h tk F N st po; subst po; clear st lF lN; (try k_fold)))
    unfold lawA lawEnv lawP
    dsimp only
    k_steps
    k_with_none
    refine hq _ _ _ F (fun z h1 => ?_) (fun p hp => N p ((show ∀ p ∈ (L + 1 + 1 + 1 + 1 + 1 + 1 + 1 + 1, o8) :: (L + 1 + 1 + 1 + 1 + 1 + 1 + 1, o7) :: (L + 1 + 1 + 1 + 1 + 1 + 1, o6) :: (L + 1 + 1 + 1 + 1 + 1, o5) :: (L + 1 + 1 + 1 + 1, o4) :: (L + 1 + 1 + 1, o3) :: (L + 1 + 1, o2) :: (L + 1, o1) :: rs, _ by kst_in) p hp))
    have e9 := congrFun eM z
    simp only [if_neg h1]
    exact e9
  · unfold lawA lawEnv lawP
    dsimp only
    k_steps
    exact hq _ _ _ (by assumption) (fun z h1 => congrFun eM z) (by assumption)
end
end D
end SCA10
end SL
end SH
section SPK
/-- the excesses -/
noncomputable def excL (b : Int) (fs bs : List Int) : List Int := (rangeKs 1 6).map (fun k => excessP k b fs bs)
/-- what the plain law says of the parts, the groups and the texts -/
structure PlainOk (b : Int) (bs ps fs ns : List Int) (U Nn Mm pt : Int) : Prop where
  hb : 2 ≤ b ∧ b ≤ 3
  pB : Parts bs
  pP : Parts ps
  pF : Parts fs
  hU : U.natAbs < 2 ^ 64
  worthF : ∃ fu r, (shortS fs).length ≤ 600 ∧ symsP (shortS fs) fu 0 = some r ∧ worthP U (U ^ 6) (r ++ [0]) = some Nn
  worthB : ∃ fu r, (boundedS bs b).length ≤ 600 ∧ symsP (boundedS bs b) fu 0 = some r ∧ worthP U (U ^ 6) (r ++ [0]) = some Mm
  n0 : 0 ≤ Nn
  n1 : fit Nn = true
  m0 : 0 ≤ Mm
  m1 : fit Mm = true
  nsl : 0 < ns.length ∧ ns.length < 100
  nsz : ∀ x ∈ ns, 1 ≤ x ∧ x ≤ 9
  gl : (groupsS Nn ns).length = 9
  ll : (groupsS Mm ns).length = 9
  gI : ∀ k : Int, 0 ≤ k → k < 7 → PySem.intText? ((groupsS Nn ns).getD (7 - k).toNat Str.empty) = some ((countsP fs 7).getD k.toNat 0) ∧ ((groupsS Nn ns).getD (7 - k).toNat Str.empty).length ≤ 640
  lI : ∀ k : Int, 0 ≤ k → k < 7 → PySem.intText? ((groupsS Mm ns).getD (7 - k).toNat Str.empty) = some ((countsP bs b).getD k.toNat 0) ∧ ((groupsS Mm ns).getD (7 - k).toNat Str.empty).length ≤ 640
  gC : (rangeKs 0 7).map (fun k => (countsP fs 7).getD k.toNat 0) = countsP fs 7
  lC : (rangeKs 0 7).map (fun k => (countsP bs b).getD k.toNat 0) = countsP bs b
  ptM : ∀ M, M ∈ (rangeKs 1 6).filter (fun k => !((excL b fs bs).getD (k - 1).toNat 0 == 0)) ++ [7] → (∀ a, a ∈ (rangeKs 1 6).filter (fun k => !((excL b fs bs).getD (k - 1).toNat 0 == 0)) ++ [7] → M ≤ a) → M = pt
  pt1 : 1 ≤ pt
  pgOk : ((groupsS Mm ns).map (·.length)).sum + (groupsS Mm ns).length * (Str.ofString ",").length ≤ 16777216
  pgl : (Txt.join (Str.ofString ",") (groupsS Mm ns)).length < 100000
  gs2 : ∀ k : Nat, (((groupsS Nn ns).drop k).map (·.length)).sum ≤ 1000
  gj2 : ∀ k : Nat, (Txt.join (Str.ofString ",") ((groupsS Nn ns).drop k)).length ≤ 1000
  e21 : ∀ j : Int, 1 ≤ j → j < 8 → ellP (Str.ofString "...," ++ Txt.join (Str.ofString ",") ((groupsS Nn ns).drop (8 - j).toNat)) (Txt.join (Str.ofString ",") (groupsS Mm ns)) = some (decide (j ≤ pt))
  e22 : pt < 7 → ∃ N2, Nn - (excL b fs bs).getD (pt - 1).toNat 0 * U ^ pt.toNat = N2 ∧ 0 ≤ N2 ∧ fit N2 = true ∧ fit ((excL b fs bs).getD (pt - 1).toNat 0) = true ∧ fit (U ^ pt.toNat) = true ∧ (groupsS N2 ns).length = 9 ∧ (((groupsS N2 ns).drop (7 - pt).toNat).map (·.length)).sum ≤ 1000 ∧ (Txt.join (Str.ofString ",") ((groupsS N2 ns).drop (7 - pt).toNat)).length ≤ 1000 ∧
      ellP (Str.ofString "...," ++ Txt.join (Str.ofString ",") ((groupsS N2 ns).drop (7 - pt).toNat)) (Txt.join (Str.ofString ",") (groupsS Mm ns)) = some true
  l1 : (shortS fs).length < 100000 ∧ (longS ps).length < 100000
  l2 : (shortS ps).length < 100000 ∧ (longS fs).length < 100000
  e23 : ellP (shortS fs) (longS ps) = some (takesP fs ps)
  e24 : ellP (shortS ps) (longS fs) = some (takesP ps fs)
end SPK
section SZ1
theorem upd_at {x : Str} {v : Value} {m M : Str → Option Value} (hM : (fun z => if z = x then some v else m z) = M) : M x = some v := by rw [← hM]; exact if_pos rfl
theorem upd_ne {x y : Str} {v : Value} {r : Option Value} {m M : Str → Option Value} (hM : (fun z => if z = x then some v else m z) = M) (h : y ≠ x) (e : m y = r) : M y = r := by rw [← hM]; exact (if_neg h).trans e
theorem own_obj {D : Addr} {o o' : Obj} {rs : List (Addr × Obj)} {A : List Addr} (h : OwnOff ((D, o) :: rs) A) : OwnOff ((D, o') :: rs) A := fun p hp b hb =>
  (List.mem_cons.mp hp).elim (fun e => by rw [e]; exact h (D, o) List.mem_cons_self b hb) fun hp => h p (List.mem_cons_of_mem _ hp) b hb
section
variable {w : World} {mean : ExcName → Option Value} {mg mb : Str → Option Value} {dp un : Nat} {gd : Option (List Code)} {fa : Addr} {cdv : Value} {outer : List Env} {A₀ : Around} {base g : Heap} {L : Addr} {m : Str → Option Value} {s : Shared} {h : Heap} {tk : Nat} {Q : Flow → Shared → Prop} {E : Value → Shared → Prop}
  {o1 o2 o3 o4 o5 o6 o7 o8 : Obj}
theorem law_body {l : Addr} {vs : List Value} {ns : List Int} {e0 e1 e2 e3 Nn Mm pt : Int} {v1 v2 v3 v4 v5 v6 v7 v8 : Option Value} (B' : Below A₀ base outer g) (X' : (hd.heap_39 w.params).In g) (T' : Top hd.view_39 LS mean mg mb g) (hd : dp + 20 < recursionLimit) (hu : un + 400 < cLine)
    (F : Fr g L h m) (N : News g L h ((L + 1 + 1 + 1 + 1 + 1 + 1 + 1 + 1, o8) :: (L + 1 + 1 + 1 + 1 + 1 + 1 + 1, o7) :: (L + 1 + 1 + 1 + 1 + 1 + 1, o6) :: (L + 1 + 1 + 1 + 1 + 1, o5) :: (L + 1 + 1 + 1 + 1, o4) :: (L + 1 + 1 + 1, o3) :: (L + 1 + 1, o2) :: (L + 1, o1) :: [])) (d1 : o1.data = .cell v1) (d2 : o2.data = .cell v2) (d3 : o3.data = .cell v3) (d4 : o4.data = .cell v4) (d5 : o5.data = .cell v5) (d6 : o6.data = .cell v6) (d7 : o7.data = .cell v7) (d8 : o8.data = .cell v8)
    (hz : ns.length < 100000) (hm : m (Str.ofString "script") = some (.ref l)) (hl : g.IsList l vs.toArray) (hi : IntsAre vs ns) (hdr : drawnP ns = [e0, e1, e2, e3])
    (P : PlainOk (bndP e1) (bddP e0 e1) ((bddP e0 e1).filter (plnF (bndP e1) (bddP e0 e1))) ((rangeKs 1 6).filter (freF e2 ((bddP e0 e1).filter (plnF (bndP e1) (bddP e0 e1))))) (toldP (Int.fmod (Int.fdiv e3 3) 4) (4 + Int.fmod e3 3) (1 + Int.fmod (Int.fdiv e3 12) 9)) (10 ^ (4 + Int.fmod e3 3).toNat) Nn Mm pt)
    (hq : ∀ h' tk' m' G, (AllBare s.gens → AllBare G) → Fr g L h' m' → Q (.ret (.bool true)) { s with heap := h', toks := tk', gens := G }) :
    wpAny (model PySem.Challenge.rw_wo0041_01.row.prog w) (lawA w.params dp un gd L fa cdv outer) (execs [(lawP w.params).1.s0, (lawP w.params).1.s1, (lawP w.params).1.s2, (lawP w.params).1.s3, (lawP w.params).1.s4, (lawP w.params).1.s5, (lawP w.params).1.s6, (lawP w.params).1.s7, (lawP w.params).1.s8, (lawP w.params).1.s9, (lawP w.params).1.s10, (lawP w.params).1.s11, (lawP w.params).1.s12, (lawP w.params).1.s13, (lawP w.params).1.s14, (lawP w.params).1.s15, (lawP w.params).1.s16, (lawP w.params).1.s17, (lawP w.params).1.s18, (lawP w.params).1.s19, (lawP w.params).1.s20, (lawP w.params).1.s21, (lawP w.params).1.s22, (lawP w.params).1.s23, (lawP w.params).1.s24] (lawEnv w.params L fa cdv)) Q (fun _ _ => False) { s with heap := h, toks := tk } := by
  have hw0 := fmod_lo e3 (show (0 : Int) < 3 by decide)
  have hw1 := fmod_hi e3 (show (0 : Int) < 3 by decide)
  have hk0 := fmod_lo (Int.fdiv e3 3) (show (0 : Int) < 4 by decide)
  have hk1 := fmod_hi (Int.fdiv e3 3) (show (0 : Int) < 4 by decide)
  have hf0 := fmod_lo (Int.fdiv e3 12) (show (0 : Int) < 9 by decide)
  have hf1 := fmod_hi (Int.fdiv e3 12) (show (0 : Int) < 9 by decide)
  generalize hbnd : bndP e1 = b at P
  generalize hbdd : bddP e0 e1 = bs at P
  generalize hps : bs.filter (plnF b bs) = ps at P
  generalize hfs : (rangeKs 1 6).filter (freF e2 ps) = fs at P
  generalize hwv : 4 + Int.fmod e3 3 = wv at P
  generalize hkd : Int.fmod (Int.fdiv e3 3) 4 = kd at P hk0 hk1
  generalize hfv : 1 + Int.fmod (Int.fdiv e3 12) 9 = fv at P
  have h4 : kd = 0 ∨ kd = 1 ∨ kd = 2 ∨ kd = 3 := by omega
  have hg := told_giv (kd := kd) (w := wv) (f := fv) h4 (by omega) (by omega) (by omega) (by omega)
  have htl : (tailP kd wv).length ≤ 9 := by rcases h4 with h | h | h | h <;> rw [h] <;> simp [tailP]
  have hwv4 : 4 ≤ wv ∧ wv ≤ 6 := by omega
  clear hw0 hw1 hf0 hf1
  have own0 : OwnOff ([] : List (Addr × Obj)) [L + 1 + 1 + 1 + 1 + 1 + 1 + 1 + 1, L + 1 + 1 + 1 + 1 + 1 + 1 + 1, L + 1 + 1 + 1 + 1 + 1 + 1, L + 1 + 1 + 1 + 1 + 1, L + 1 + 1 + 1 + 1, L + 1 + 1 + 1, L + 1 + 1, L + 1] := fun p hp => nomatch hp
  refine wpAny_execs_cons (st0 B' X' T' hd hu F N own0 d1 hz hm hl hi ?_)
  intro D1 us1 n1 h tk o1 F N own1 d1 hI1
  rw [hdr] at hI1
  refine wpAny_execs_cons (st1 B' X' T' F N own1 d1 d2 List.mem_cons_self hI1 ?_)
  intro h tk o2 tb F N d2
  rw [hbnd] at d2
  refine wpAny_execs_cons (st2 B' X' T' F N own1 d3 ?_)
  intro D3 h tk o3 F N own3 own3b d3
  refine wpAny_execs_cons (st3 B' X' T' F N own3 own3b d1 (by rw [hbnd]; exact d2) d3 List.mem_cons_self hI1 ?_)
  intro us3 n3 h tk m3 F hm3 N hI3
  rw [hbdd] at hI3
  have own3 := own_obj (o' := listOf (List.toArray us3) n3) own3
  clear hm3 hm
  refine wpAny_execs_cons (st4 B' X' T' F N own3 d2 d3 d4 (by repeat (first | exact List.mem_cons_self | refine List.mem_cons_of_mem _ ?_)) hI3 P.hb P.pB.1 ?_)
  intro D4 us4 n4 h tk o4 F N own4 d4 hI4
  rw [hps] at hI4
  refine wpAny_execs_cons (st5 B' X' T' F N own4 d1 d4 d5 (by repeat (first | exact List.mem_cons_self | refine List.mem_cons_of_mem _ ?_)) hI1 (by repeat (first | exact List.mem_cons_self | refine List.mem_cons_of_mem _ ?_)) hI4 P.pP.1 ?_)
  intro D5 us5 n5 h tk o5 F N own5 d5 hI5
  rw [hfs] at hI5
  refine wpAny_execs_cons (st6 B' X' T' F N own5 d1 (by repeat (first | exact List.mem_cons_self | refine List.mem_cons_of_mem _ ?_)) hI1 ?_)
  intro h tk t6 F N
  rw [hwv] at F
  generalize hM : (fun z => if z = Str.ofString "width" then some (Value.int wv t6) else m3 z) = m6 at F
  have aw := upd_at hM
  clear hM
  refine wpAny_execs_cons (st7 B' X' T' F N own5 d1 (by repeat (first | exact List.mem_cons_self | refine List.mem_cons_of_mem _ ?_)) hI1 ?_)
  intro h tk t7 F N
  rw [hkd] at F
  generalize hM : (fun z => if z = Str.ofString "kind" then some (Value.int kd t7) else m6 z) = m7 at F
  have ak := upd_at hM
  replace aw := upd_ne hM (by decide) aw
  clear hM
  refine wpAny_execs_cons (st8 B' X' T' F N own5 d1 (by repeat (first | exact List.mem_cons_self | refine List.mem_cons_of_mem _ ?_)) hI1 ?_)
  intro h tk t8 F N
  rw [hfv] at F
  generalize hM : (fun z => if z = Str.ofString "front" then some (Value.int fv t8) else m7 z) = m8 at F
  have af := upd_at hM
  replace aw := upd_ne hM (by decide) aw
  replace ak := upd_ne hM (by decide) ak
  clear hM
  refine wpAny_execs_cons (st9 B' X' T' F N own5 aw ak h4 ?_)
  intro Dt ust nt h tk F N own9 hIt
  generalize hM : (fun z => if z = Str.ofString "tail" then some (Value.ref Dt) else m8 z) = m9 at F
  have atl := upd_at hM
  replace aw := upd_ne hM (by decide) aw
  replace ak := upd_ne hM (by decide) ak
  replace af := upd_ne hM (by decide) af
  clear hM
  refine wpAny_execs_cons (st10 B' X' T' hd hu F N own9 af atl (by repeat (first | exact List.mem_cons_self | refine List.mem_cons_of_mem _ ?_)) hIt hg htl ?_)
  intro Do uso no h tk G hG F N own10 hIo
  generalize hM : (fun z => if z = Str.ofString "told" then some (Value.ref Do) else m9 z) = m10 at F
  have ato := upd_at hM
  replace aw := upd_ne hM (by decide) aw
  replace ak := upd_ne hM (by decide) ak
  replace af := upd_ne hM (by decide) af
  clear hM atl
  refine wpAny_execs_cons (st11 (s := { s with gens := G }) B' X' T' hd hu F N own10 aw ak af ato (by repeat (first | exact List.mem_cons_self | refine List.mem_cons_of_mem _ ?_)) hIo h4 ?_)
  intro h tk F N
  clear ak af
  refine wpAny_execs_cons (st12 (s := { s with gens := G }) B' X' T' F N aw hwv4.1 hwv4.2 ?_)
  intro h tk t12 F N
  generalize hM : (fun z => if z = Str.ofString "unit" then some (Value.int (10 ^ wv.toNat) t12) else m10 z) = m12 at F
  have au := upd_at hM
  replace ato := upd_ne hM (by decide) ato
  clear hM aw
  obtain ⟨fuF, rF, hlF, hsF, hwF⟩ := P.worthF
  refine wpAny_execs_cons (st13 (s := { s with gens := G }) B' X' T' hd hu F N own10 d5 (by repeat (first | exact List.mem_cons_self | refine List.mem_cons_of_mem _ ?_)) hI5 P.pF au P.hU hlF hsF hwF ?_)
  intro h tk t13 F N
  generalize hM : (fun z => if z = Str.ofString "number" then some (Value.int Nn t13) else m12 z) = m13 at F
  have an := upd_at hM
  replace ato := upd_ne hM (by decide) ato
  replace au := upd_ne hM (by decide) au
  clear hM
  refine wpAny_execs_cons (st14 (s := { s with gens := G }) B' X' T' hd hu F N own10 d6 (by repeat (first | exact List.mem_cons_self | refine List.mem_cons_of_mem _ ?_)) hIo ato an P.n0 P.n1 P.nsl.1 P.nsl.2 P.nsz ?_)
  intro D6 us6 n6 h tk o6 F N own14 d6 hS6
  obtain ⟨fuB, rB, hlB, hsB, hwB⟩ := P.worthB
  refine wpAny_execs_cons (st15 (s := { s with gens := G }) B' X' T' hd hu F N own14 d2 d3 d7 (by repeat (first | exact List.mem_cons_self | refine List.mem_cons_of_mem _ ?_)) hIo (by repeat (first | exact List.mem_cons_self | refine List.mem_cons_of_mem _ ?_)) hI3 P.pB P.hb ato au P.hU hlB hsB hwB P.m0 P.m1 P.nsl.1 P.nsl.2 P.nsz ?_)
  intro D7 us7 n7 h tk o7 F N own15 d7 hS7
  refine wpAny_execs_cons (st16 (s := { s with gens := G }) B' X' T' hd hu F N own15 d5 d6 (by repeat (first | exact List.mem_cons_self | refine List.mem_cons_of_mem _ ?_)) hI5 (by repeat (first | exact List.mem_cons_self | refine List.mem_cons_of_mem _ ?_)) hS6 P.pF P.gl P.gI P.gC ?_)
  intro h tk F N
  refine wpAny_execs_cons (st17 (s := { s with gens := G }) B' X' T' hd hu F N own15 d2 P.hb d3 d7 (by repeat (first | exact List.mem_cons_self | refine List.mem_cons_of_mem _ ?_)) hI3 (by repeat (first | exact List.mem_cons_self | refine List.mem_cons_of_mem _ ?_)) hS7 P.pB P.ll P.lI P.lC ?_)
  intro h tk F N
  refine wpAny_execs_cons (st18 (s := { s with gens := G }) B' X' T' hd hu F N own15 d2 d3 d5 d8 (by repeat (first | exact List.mem_cons_self | refine List.mem_cons_of_mem _ ?_)) hI3 (by repeat (first | exact List.mem_cons_self | refine List.mem_cons_of_mem _ ?_)) hI5 P.hb P.pB P.pF ?_)
  intro D8 us8 n8 h tk o8 F N own18 d8 hI8
  have hx6 : (excL b fs bs).length = 6 := by unfold excL; rw [List.length_map, rangeKs_length]
  refine wpAny_execs_cons (st19 (s := { s with gens := G }) (xs := excL b fs bs) (pt := pt) B' X' T' hd hu F N own18 d8 (by repeat (first | exact List.mem_cons_self | refine List.mem_cons_of_mem _ ?_)) hI8 hx6 P.ptM ?_)
  intro h tk t19 F N
  generalize hM : (fun z => if z = Str.ofString "parting" then some (Value.int pt t19) else m13 z) = m19 at F
  have ap := upd_at hM
  replace ato := upd_ne hM (by decide) ato
  replace au := upd_ne hM (by decide) au
  replace an := upd_ne hM (by decide) an
  clear hM
  refine wpAny_execs_cons (st20 (s := { s with gens := G }) B' X' T' hd hu F N own18 d7 (by repeat (first | exact List.mem_cons_self | refine List.mem_cons_of_mem _ ?_)) hS7 P.pgOk ?_)
  intro h tk t20 F N
  generalize hM : (fun z => if z = Str.ofString "page" then some (Value.str (Txt.join (Str.ofString ",") (groupsS Mm (toldP kd wv fv))) t20) else m19 z) = m20 at F
  have ag := upd_at hM
  replace ato := upd_ne hM (by decide) ato
  replace au := upd_ne hM (by decide) au
  replace an := upd_ne hM (by decide) an
  replace ap := upd_ne hM (by decide) ap
  clear hM
  refine wpAny_execs_cons (st21 (s := { s with gens := G }) B' X' T' hd hu F N own18 d6 (by repeat (first | exact List.mem_cons_self | refine List.mem_cons_of_mem _ ?_)) hS6 P.gl ag ap P.pgl P.gs2 P.gj2 P.e21 ?_)
  intro h tk m21 F hM N
  replace ato := (hM _ (by decide)).trans ato
  replace au := (hM _ (by decide)).trans au
  replace an := (hM _ (by decide)).trans an
  replace ap := (hM _ (by decide)).trans ap
  replace ag := (hM _ (by decide)).trans ag
  clear hM
  refine wpAny_execs_cons (st22 (s := { s with gens := G }) (xs := excL b fs bs) B' X' T' hd hu F N own18 d8 (by repeat (first | exact List.mem_cons_self | refine List.mem_cons_of_mem _ ?_)) hI8 hx6 (by repeat (first | exact List.mem_cons_self | refine List.mem_cons_of_mem _ ?_)) hIo ag ap an au ato P.pt1 P.pgl P.hU P.nsl.1 P.nsl.2 P.nsz P.e22 ?_)
  intro h tk m22 F hM N
  refine wpAny_execs_cons (st23 (s := { s with gens := G }) B' X' T' hd hu F N own18 d4 d5 (by repeat (first | exact List.mem_cons_self | refine List.mem_cons_of_mem _ ?_)) hI4 (by repeat (first | exact List.mem_cons_self | refine List.mem_cons_of_mem _ ?_)) hI5 P.pP P.pF P.l1.1 P.l1.2 P.e23 ?_)
  intro h tk F N
  refine wpAny_execs_cons (st24 (s := { s with gens := G }) B' X' T' hd hu F N own18 d4 d5 (by repeat (first | exact List.mem_cons_self | refine List.mem_cons_of_mem _ ?_)) hI4 (by repeat (first | exact List.mem_cons_self | refine List.mem_cons_of_mem _ ?_)) hI5 P.pP P.pF P.l2.1 P.l2.2 P.e24 ?_)
  intro h tk F
  exact hq _ _ _ G hG F
end
end SZ1
section SZ2
open PySem.W.X
theorem enterTop {w : World} {s : Shared} {f : Addr} {mg mb : Str → Option Value} {mean : ExcName → Option Value} {Q E : Value → Shared → Prop} {name qual : Str} {params : Arguments} {body : List Stmt} {scope : Scope} {dV kV doc pm cdv ct oc : Value} {an od : Option Addr} {osl : Array (Option Value)} {args : List Value}
    (binds : List (Str × Value)) (X₀ : (hd.heap_39 w.params).In s.heap) (T : Top hd.view_39 LS mean mg mb s.heap)
    (ho : (hd.heap_39 w.params).lookup f = some ⟨oc, od, .func (fnOf name qual params body scope dV kV doc pm an cdv ct), osl⟩) (hcd : codeIn (hd.heap_39 w.params) cdv qual = true)
    (hbind : BindsTo s (fnOf name qual params body scope dV kV doc pm an cdv ct) ⟨args, []⟩ binds) (hkind : (binds.all fun y => scope.names.lookup y.1 == some .local || scope.names.lookup y.1 == some .cell) = true)
    (hnd : ((cellsFrom 0 scope.names []).map (·.1)).Nodup)
    (h : ∀ L' h₁ tk cells, Fr s.heap L' h₁ (bindL (envOfC qual scope L' f cdv).kindOf binds fun _ => none) → News s.heap L' h₁ cells →
      CellsAre (bindC (envOfC qual scope L' f cdv).kindOf binds fun _ => none) (cellsFrom (L' + 1) scope.names []) cells →
      wpAny (model PySem.Challenge.rw_wo0041_01.row.prog w) (callerA.deeper (envOfC qual scope L' f cdv)) (execs body (envOfC qual scope L' f cdv)) (fun fl s' => Q (match fl with | .ret v => v | _ => .none) s') (fun _ _ => False) { s with heap := h₁, toks := tk })
    (hco : scope.isCoroutine = false) (hgen : scope.isGenerator = false) (hk : scope.kind = .function) : wpAny (model PySem.Challenge.rw_wo0041_01.row.prog w) callerA (call (.ref f) args) Q E s := by
  refine wpAny_call ?_
  refine codeAny_call_function (by decide) (X₀ _ _ ho) rfl hco hgen rfl (codeRec_of X₀ hcd) (hbind _ _ _ _ ?_)
  refine wpAny_newFunctionEnv_cells hk (kindsX hkind _) fun env' he s' x => ?_
  subst he
  refine ⟨T.nolimit.keeps x.toInCall.keep, codeAny_func ?_⟩
  obtain ⟨h₁, tk, rfl, _⟩ := x.done
  obtain ⟨cells, NC, Y⟩ := Cl.news (h₀ := s.heap) (Nat.le_refl _) fun n c hm => ⟨x.cell n c (lookup_of_mem_nodup (cellsFrom_names scope.names 0 (s.heap.objs.size + 1) [] [] rfl ▸ hnd) hm), x.above n c hm⟩
  exact wpAny_mono (h s.heap.objs.size h₁ tk cells ⟨x.toInCall.ns, x.toInCall.keep, Nat.le_refl _⟩ NC Y) (fun fl s' hl => hl) fun _ _ y => y.elim
theorem law_top {w : World} {s : Shared} {mg mb : Str → Option Value} {mean : ExcName → Option Value} {Q E : Value → Shared → Prop} {l : Addr} {vs : List Value} {ns : List Int} (X₀ : (hd.heap_39 w.params).In s.heap) (T : Top hd.view_39 LS mean mg mb s.heap)
    (plain : ∀ e0 e1 e2 e3, ∃ Nn Mm pt, PlainOk (bndP e1) (bddP e0 e1) ((bddP e0 e1).filter (plnF (bndP e1) (bddP e0 e1))) ((rangeKs 1 6).filter (freF e2 ((bddP e0 e1).filter (plnF (bndP e1) (bddP e0 e1))))) (toldP (Int.fmod (Int.fdiv e3 3) 4) (4 + Int.fmod e3 3) (1 + Int.fmod (Int.fdiv e3 12) 9)) (10 ^ (4 + Int.fmod e3 3).toNat) Nn Mm pt)
    (hz : ns.length < 100000) (hl : s.heap.IsList l vs.toArray) (hi : IntsAre vs ns)
    (hq : ∀ h' tk' L' m' G, (AllBare s.gens → AllBare G) → Fr s.heap L' h' m' → Q (.bool true) { s with heap := h', toks := tk', gens := G }) : wpAny (model PySem.Challenge.rw_wo0041_01.row.prog w) callerA (call (.ref 171) [.ref l]) Q E s := by
  obtain ⟨e0, e1, e2, e3, hdr⟩ := drawn_four ns
  obtain ⟨Nn, Mm, pt, P⟩ := plain e0 e1 e2 e3
  k_dflt (refine' enterTop [(Str.ofString "script", .ref l)] X₀ T ?k6 ?k7 ?k9 ?kB ?kD ?_ ?c2 ?c3 ?c4; (case k6 => k_is); (case k7 => k_is); (case k9 => exact BindsTo.of_eq rfl); (case kB => exact rfl); (case kD => decide +kernel); (case c2 => exact rfl); (case c3 => exact rfl); (case c4 => exact rfl); k_whole; intro L' h' tk' cells' F' N' Y')
  k_cells Y'
  rename_i o8 o7 o6 o5 o4 o3 o2 o1 d8 d7 d6 d5 d4 d3 d2 d1
  exact law_body (dp := 302) (un := 7) (gd := some []) (outer := []) (A₀ := callerA) (below_caller s.heap) X₀ T (by decide) (by decide) F' N' d1 d2 d3 d4 d5 d6 d7 d8 hz (by with_unfolding_all rfl) hl hi hdr P (fun h' tk' m' G hG F => hq h' tk' _ m' G hG F)
theorem t (plain : ∀ e0 e1 e2 e3, ∃ Nn Mm pt, PlainOk (bndP e1) (bddP e0 e1) ((bddP e0 e1).filter (plnF (bndP e1) (bddP e0 e1))) ((rangeKs 1 6).filter (freF e2 ((bddP e0 e1).filter (plnF (bndP e1) (bddP e0 e1))))) (toldP (Int.fmod (Int.fdiv e3 3) 4) (4 + Int.fmod e3 3) (1 + Int.fmod (Int.fdiv e3 12) 9)) (10 ^ (4 + Int.fmod e3 3).toNat) Nn Mm pt) : PySem.Challenge.rw_wo0041_01.Holds := hd (by
  k_fill
  intro w s₀ s₁ mg mb G Y fa o pm cd doc dV kV ho hd hcd hD hmg hg args vals as hpre hlay hrd hwl hlo
  have KX := kIn_of Y
  refine Ground.open G ?_
  intro T B D TE TW
  wrow_args hpre hlay hrd hwl hlo
  x_fa T KX hmg
  rename_i hL _ _ _ hI _ hcond _
  refine law_top KX T plain (by omega) hL hI ?_
  intro h' tk' L' m' G' hG F
  refine ⟨.inl ⟨_, _, [], rfl, fun _ => rfl, ReadsW.bool true, ?_, fun _ => ⟨List.nodup_nil, fun _ hm => (nomatch hm)⟩⟩, .of_keep F.keep, rfl, hG (by first | exact .of_eq hg | (rw [hg]; exact AllBare.empty))⟩
  first | rfl | wrow_post)
end SZ2
section SPL1
section T1
open PySem.StrLaws PySem.Builtin PySem.Builtin.Str
noncomputable def preL : List Nat → List Nat → Bool
  | [], _ => true
  | _ :: _, [] => false
  | a :: x, b :: y => Nat.beq a b && preL x y
theorem preL_iff : ∀ x l : List Nat, preL x l = true ↔ l.take x.length = x
  | [], l => by simp [preL]
  | a :: x, [] => by simp [preL]
  | a :: x, b :: y => by
    simp only [preL, Bool.and_eq_true, Nat.beq_eq, List.length_cons, List.take_succ_cons, List.cons.injEq, preL_iff x y]
    exact ⟨fun h => ⟨h.1.symm, h.2⟩, fun h => ⟨h.1.symm, h.2⟩⟩
theorem sub_preL (s sub : Str) (i : Nat) : subAt s sub i = preL sub.cps.toList (s.cps.toList.drop i) := by
  rw [Bool.eq_iff_iff, preL_iff]
  unfold subAt
  rw [beq_iff_eq, ← Array.toList_inj, Array.toList_extract]
  show (s.cps.toList.drop i).take (i + sub.cps.size - i) = _ ↔ _
  rw [Nat.add_sub_cancel_left, Array.length_toList]
noncomputable def occL (sub : List Nat) (k hi limit : Nat) : List Nat → Nat → Nat → Nat → List Nat
  | [], i, free, cnt => cond (preL sub [] && (Nat.ble free i && (Nat.ble (i + k) hi && Nat.blt cnt limit))) [i] []
  | c :: l, i, free, cnt => cond (preL sub (c :: l) && (Nat.ble free i && (Nat.ble (i + k) hi && Nat.blt cnt limit))) (i :: occL sub k hi limit l (i + 1) (i + k) (cnt + 1)) (occL sub k hi limit l (i + 1) free cnt)
theorem occL_out {sub : List Nat} {k hi limit : Nat} : ∀ (l : List Nat) (i free cnt : Nat), hi < i → occL sub k hi limit l i free cnt = []
  | [], i, free, cnt, h => by
    have e : Nat.ble (i + k) hi = false := by
      rw [Bool.eq_false_iff]; intro h1; have := Nat.le_of_ble_eq_true h1; omega
    unfold occL
    rw [e, Bool.false_and, Bool.and_false, Bool.and_false]; rfl
  | c :: l, i, free, cnt, h => by
    have e : Nat.ble (i + k) hi = false := by
      rw [Bool.eq_false_iff]; intro h1; have := Nat.le_of_ble_eq_true h1; omega
    unfold occL
    rw [e, Bool.false_and, Bool.and_false, Bool.and_false]
    exact occL_out l (i + 1) free cnt (by omega)
theorem occ_cond {s sub : Str} {hi limit i : Nat} {F : Array Nat} {free : Nat} {l : List Nat} (hl : s.cps.toList.drop i = l) :
    (preL sub.cps.toList l && (Nat.ble free i && (Nat.ble (i + sub.length) hi && Nat.blt F.size limit))) = true ↔ ((F.size < limit ∧ free ≤ i) ∧ i + sub.length ≤ hi) ∧ subAt s sub i = true := by
  rw [sub_preL, hl]
  simp only [Bool.and_eq_true, Nat.ble_eq, Nat.blt_eq]
  exact ⟨fun ⟨a, b, c, d⟩ => ⟨⟨⟨d, b⟩, c⟩, a⟩, fun ⟨⟨⟨d, b⟩, c⟩, a⟩ => ⟨a, b, c, d⟩⟩
theorem occ_step {s sub : Str} {hi limit i : Nat} {F : Array Nat} {free : Nat} {l r : List Nat} (hl : s.cps.toList.drop i = l) :
    (forIn (i :: r) (F, free) (occBody s sub hi limit)).run = cond (preL sub.cps.toList l && (Nat.ble free i && (Nat.ble (i + sub.length) hi && Nat.blt F.size limit))) (forIn r (F.push i, i + sub.length) (occBody s sub hi limit)).run (forIn r (F, free) (occBody s sub hi limit)).run := by
  rw [List.forIn_cons]
  have hc := occ_cond (sub := sub) (hi := hi) (limit := limit) (F := F) (free := free) hl
  cases hb : (preL sub.cps.toList l && (Nat.ble free i && (Nat.ble (i + sub.length) hi && Nat.blt F.size limit))) with
  | true => unfold occBody; rw [if_pos (hc.mp hb)]; rfl
  | false => unfold occBody; rw [if_neg (fun h => by rw [hc.mpr h] at hb; cases hb)]; rfl
theorem occ_run {s sub : Str} {hi limit : Nat} (hh : hi ≤ s.cps.toList.length) : ∀ (l : List Nat) (i : Nat) (F : Array Nat) (free : Nat), s.cps.toList.drop i = l → i ≤ s.cps.toList.length →
    (forIn (List.range' i (hi + 1 - i)) (F, free) (occBody s sub hi limit)).run.fst.toList = F.toList ++ occL sub.cps.toList sub.length hi limit l i free F.size
  | [], i, F, free, hl, hi1 => by
    have e : s.cps.toList.length ≤ i := List.drop_eq_nil_iff.mp hl
    by_cases h : i ≤ hi
    · have e2 : hi + 1 - i = 1 := by omega
      rw [e2]
      show (forIn [i] (F, free) (occBody s sub hi limit)).run.fst.toList = _
      rw [occ_step hl]
      unfold occL
      cases (preL sub.cps.toList [] && (Nat.ble free i && (Nat.ble (i + sub.length) hi && Nat.blt F.size limit))) with
      | true => simp
      | false => simp
    · have e2 : hi + 1 - i = 0 := by omega
      rw [e2, occL_out _ _ _ _ (by omega), List.append_nil]
      rfl
  | c :: l, i, F, free, hl, hi1 => by
    have hlt : i < s.cps.toList.length := by
      by_cases h : i < s.cps.toList.length
      · exact h
      · rw [List.drop_eq_nil_iff.mpr (by omega)] at hl; cases hl
    have hl2 : s.cps.toList.drop (i + 1) = l := by
      rw [← List.tail_drop, hl]; rfl
    by_cases h : i ≤ hi
    · have e2 : hi + 1 - i = (hi + 1 - (i + 1)) + 1 := by omega
      rw [e2, List.range'_succ, occ_step hl]
      unfold occL
      cases (preL sub.cps.toList (c :: l) && (Nat.ble free i && (Nat.ble (i + sub.length) hi && Nat.blt F.size limit))) with
      | true =>
        show (forIn (List.range' (i + 1) (hi + 1 - (i + 1))) (F.push i, i + sub.length) (occBody s sub hi limit)).run.fst.toList = _
        rw [occ_run hh l (i + 1) _ _ hl2 (by omega)]
        simp
      | false => exact occ_run hh l (i + 1) F free hl2 (by omega)
    · have e2 : hi + 1 - i = 0 := by omega
      rw [e2, occL_out _ _ _ _ (by omega), List.append_nil]
      rfl
theorem occ_occL {s sub : Str} {lo hi limit : Nat} (hh : hi ≤ s.cps.toList.length) (hlo : lo ≤ s.cps.toList.length) : occurrences s sub lo hi limit = occL sub.cps.toList sub.length hi limit (s.cps.toList.drop lo) lo lo 0 := by
  rw [occ_eq, occ_run hh _ lo #[] lo rfl hlo]
  simp
noncomputable def ellLoopL (ep : Nat) (got : List Nat) : List (List Nat) → Nat → Bool
  | [], _ => true
  | w :: r, pos => match occL w w.length ep 1 (got.drop pos) pos pos 0 with
    | k :: _ => ellLoopL ep got r (k + w.length)
    | [] => false
noncomputable def endL (got w : List Nat) : Bool := Nat.ble w.length got.length && preL w (got.drop (got.length - w.length))
noncomputable def tailL (got : List Nat) (sp ep : Nat) (ws : List (List Nat)) : Bool := cond (Nat.blt ep sp) false (ellLoopL ep got ws sp)
noncomputable def backL (got : List Nat) (sp : Nat) (ws : List (List Nat)) : Bool := match ws.getLast? with
  | none => false
  | some w => cond (Nat.beq w.length 0) (tailL got sp got.length ws) (cond (endL got w) (tailL got sp (got.length - w.length) ws.dropLast) false)
noncomputable def ellM (ps : List (List Nat)) (got : List Nat) : Option Bool := match ps with
  | p0 :: p1 :: r => cond (Nat.blt 100 r.length) none (some (cond (Nat.beq p0.length 0) (backL got 0 (p0 :: p1 :: r)) (cond (preL p0 got) (backL got p0.length (p1 :: r)) false)))
  | _ => none
noncomputable def partsL (l : List Nat) (w : Nat) : Nat → List Nat → List (List Nat)
  | a, [] => [l.drop a]
  | a, c :: r => (l.drop a).take (c - a) :: partsL l w (c + w) r
noncomputable def dotsL : List Nat := [46, 46, 46]
noncomputable def ellL (want got : List Nat) : Option Bool := match occL dotsL 3 want.length (want.length + 1) want 0 0 0 with
  | [] => some (want == got)
  | c :: r => ellM (partsL want 3 0 (c :: r)) got
noncomputable abbrev Ls (s : Str) : List Nat := s.cps.toList
theorem Ls_len (s : Str) : (Ls s).length = s.length := Array.length_toList
theorem find4_L {x y : Str} {p ep : Nat} (hp : p ≤ x.length) (he : ep ≤ x.length) : find4 x y (p : Int) (ep : Int) = match occL (Ls y) (Ls y).length ep 1 ((Ls x).drop p) p p 0 with
    | k :: _ => (k : Int)
    | [] => -1 := by
  unfold find4
  have e1 : fromIndex x.length (p : Int) = p := by unfold fromIndex; rw [if_neg (by omega)]; omega
  have e2 : min (fromIndex x.length (ep : Int)) x.length = ep := by unfold fromIndex; rw [if_neg (by omega)]; omega
  rw [e1, e2, occ_occL (by rw [Ls_len]; exact he) (by rw [Ls_len]; exact hp), Ls_len y]
  all_goals rfl
theorem occL_le {x y : Str} {p ep : Nat} {k : Nat} {r : List Nat} (hp : p ≤ x.length) (he : ep ≤ x.length) (h : occL (Ls y) (Ls y).length ep 1 ((Ls x).drop p) p p 0 = k :: r) : k + (Ls y).length ≤ ep := by
  have h1 := occ_occL (s := x) (sub := y) (lo := p) (hi := ep) (limit := 1) (by rw [Ls_len]; exact he) (by rw [Ls_len]; exact hp)
  rw [Ls_len] at h
  have h2 := occ_spec x y p ep 1 k (by rw [h1]; show k ∈ occL (Ls y) y.length ep 1 ((Ls x).drop p) p p 0; rw [h]; exact List.mem_cons_self)
  rw [Ls_len]
  exact h2.1
theorem ellLoop_L {got : Str} {ep : Nat} (he : ep ≤ got.length) : ∀ (ws : List Str) (pos : Nat), pos ≤ ep → ellLoop got (ep : Int) ws (pos : Int) = ellLoopL ep (Ls got) (ws.map Ls) pos
  | [], pos, _ => by unfold ellLoop; rfl
  | w :: r, pos, hp => by
    unfold ellLoop
    rw [find4_L (by omega) he]
    show _ = (match occL (Ls w) (Ls w).length ep 1 ((Ls got).drop pos) pos pos 0 with
      | k :: _ => ellLoopL ep (Ls got) (r.map Ls) (k + (Ls w).length)
      | [] => false)
    cases h : occL (Ls w) (Ls w).length ep 1 ((Ls got).drop pos) pos pos 0 with
    | nil => rfl
    | cons k t =>
      have h1 := occL_le (by omega) he h
      have h2 := ellLoop_L he r (k + (Ls w).length) h1
      dsimp only
      rw [if_neg (by omega), ← h2, Ls_len]
      congr 1
theorem start_L (x y : Str) : Txt.startswith x y = preL (Ls y) (Ls x) := by
  unfold Txt.startswith
  rw [sub_preL, List.drop_zero]
  cases h : preL (Ls y) (Ls x) with
  | false => exact Bool.and_false _
  | true =>
    have h1 := congrArg List.length ((preL_iff _ _).mp h)
    rw [List.length_take, Ls_len, Ls_len] at h1
    rw [decide_eq_true (by omega)]; rfl
theorem end_L (x y : Str) : Txt.endswith x y = endL (Ls x) (Ls y) := by
  unfold Txt.endswith endL
  rw [sub_preL, Ls_len, Ls_len]
  congr 1
  rw [Bool.eq_iff_iff, decide_eq_true_iff, Nat.ble_eq]; omega
theorem ellTail_L {got : Str} {sp ep : Nat} (he : ep ≤ got.length) (ws : List Str) : ellTail got (sp : Int) (ep : Int) ws = tailL (Ls got) sp ep (ws.map Ls) := by
  unfold ellTail tailL
  by_cases h : ep < sp
  · rw [if_pos (by omega), show Nat.blt ep sp = true from Nat.blt_eq.mpr h]; rfl
  · rw [if_neg (by omega), ellLoop_L he ws sp (by omega), show Nat.blt ep sp = false by rw [Bool.eq_false_iff]; intro h1; exact h (Nat.blt_eq.mp h1)]; rfl
theorem ellBack_L {got : Str} {sp : Nat} (ws : List Str) : ellBack got (sp : Int) ws = backL (Ls got) sp (ws.map Ls) := by
  unfold ellBack backL
  rw [List.getLast?_map]
  cases h : ws.getLast? with
  | none => rfl
  | some w =>
    show _ = cond (Nat.beq (Ls w).length 0) _ (cond (endL (Ls got) (Ls w)) _ _)
    rw [Ls_len w]
    by_cases h0 : w.length = 0
    · dsimp only
      rw [if_pos (by omega), h0]
      show _ = tailL (Ls got) sp (Ls got).length (ws.map Ls)
      rw [Ls_len, ellTail_L (Nat.le_refl _)]
    · dsimp only
      rw [if_neg (by omega), end_L, show Nat.beq w.length 0 = false by rw [Bool.eq_false_iff]; intro h1; exact h0 (Nat.beq_eq ▸ h1)]
      show _ = cond (endL (Ls got) (Ls w)) (tailL (Ls got) sp ((Ls got).length - w.length) (ws.map Ls).dropLast) false
      cases he : endL (Ls got) (Ls w) with
      | false => rfl
      | true =>
        have hle : w.length ≤ got.length := by
          unfold endL at he
          have := Nat.le_of_ble_eq_true (Bool.and_eq_true_iff.mp he).1
          rw [Ls_len, Ls_len] at this
          exact this
        rw [if_pos rfl]
        show _ = tailL (Ls got) sp ((Ls got).length - w.length) (ws.map Ls).dropLast
        have e : ((got.length : Nat) : Int) - (w.length : Nat) = ((got.length - w.length : Nat) : Int) := by omega
        rw [e, ellTail_L (by omega), Ls_len, ← List.map_dropLast]
theorem MK_L : Ls MK = dotsL := by decide +kernel
theorem MK_len : MK.length = 3 := by decide +kernel
theorem parts_L (x : Str) : ∀ (cuts : List Nat) (a : Nat), (partsFrom x 3 a cuts).map Ls = partsL (Ls x) 3 a cuts
  | [], a => by
    show [(x.cps.extract a x.length).toList] = [(Ls x).drop a]
    rw [Array.toList_extract]
    show [((Ls x).drop a).take (x.length - a)] = _
    rw [List.take_of_length_le (by rw [List.length_drop, Ls_len]; exact Nat.le_refl _)]
  | c :: r, a => by
    show (x.cps.extract a c).toList :: (partsFrom x 3 (c + 3) r).map Ls = _
    rw [Array.toList_extract, parts_L x r (c + 3)]
    rfl
theorem kind_pos (x : Str) : 1 ≤ Builtin.Str.strKind x := by
  unfold Builtin.Str.strKind
  split
  · exact Nat.le_refl _
  · split <;> decide
theorem ell_L (want got : Str) : ellP want got = ellL (Ls want) (Ls got) := by
  have h1 := occ_head want MK 1 (Nat.le_refl _)
  have h2 := occ_head want MK (want.length + 1) (by omega)
  have e2 : occurrences want MK 0 want.length (want.length + 1) = occL dotsL 3 (Ls want).length ((Ls want).length + 1) (Ls want) 0 0 0 := by
    rw [occ_occL (by rw [Ls_len]; exact Nat.le_refl _) (Nat.zero_le _), show want.cps.toList = Ls want from rfl, show MK.cps.toList = dotsL from MK_L, MK_len, List.drop_zero, Ls_len]
  unfold ellL
  rw [← e2]
  unfold ellP
  rcases h2 with ⟨h2, n2⟩ | ⟨c, r, h2, a2, _⟩
  · rcases h1 with ⟨h1, _⟩ | ⟨i, r', _, a1, _⟩
    · rw [h2]
      rw [if_pos (by rw [h1]; rfl)]
      show some (want == got) = some (Ls want == Ls got)
      congr 1
      rw [Bool.eq_iff_iff, beq_iff_eq, beq_iff_eq]
      constructor
      · intro h; rw [h]
      · intro h
        cases want; cases got
        exact congrArg Str.mk (Array.toList_inj.mp h)
    · exact absurd a1 (n2 i)
  · rcases h1 with ⟨h1, n1⟩ | ⟨i, r', h1, a1, _⟩
    · exact absurd a2 (n1 c)
    · rw [if_neg (by rw [h1]; exact Bool.false_ne_true)]
      have e3 : Txt.split want MK = partsFrom want 3 0 (c :: r) := by
        unfold Txt.split
        have k1 : Builtin.Str.strKind MK = 1 := by decide +kernel
        have h3 : c + MK.length ≤ want.length := a2.1
        rw [MK_len] at h3
        rw [k1, MK_len, decide_eq_false (by omega), decide_eq_false (by have := kind_pos want; omega), Bool.false_or, if_neg Bool.false_ne_true, h2, if_neg (by exact Bool.false_ne_true), partsBetween_eq]
      rw [e3, h2]
      show _ = ellM (partsL (Ls want) 3 0 (c :: r)) (Ls got)
      rw [← parts_L]
      generalize partsFrom want 3 0 (c :: r) = ps
      match ps with
      | [] => rfl
      | [_] => rfl
      | p0 :: p1 :: q =>
        show (if 100 < q.length then none else _) = cond (Nat.blt 100 (q.map Ls).length) none (some (cond (Nat.beq (Ls p0).length 0) (backL (Ls got) 0 ((p0 :: p1 :: q).map Ls)) (cond (preL (Ls p0) (Ls got)) (backL (Ls got) (Ls p0).length ((p1 :: q).map Ls)) false)))
        rw [List.length_map]
        by_cases hq : 100 < q.length
        · rw [if_pos hq, show Nat.blt 100 q.length = true from Nat.blt_eq.mpr hq]; rfl
        · rw [if_neg hq, show Nat.blt 100 q.length = false by rw [Bool.eq_false_iff]; intro h; exact hq (Nat.blt_eq.mp h)]
          show some _ = some _
          congr 1
          rw [Ls_len]
          by_cases h0 : p0.length = 0
          · rw [if_pos (by omega), h0]
            exact ellBack_L (sp := 0) _
          · rw [if_neg (by omega), start_L, show Nat.beq p0.length 0 = false by rw [Bool.eq_false_iff]; intro h; exact h0 (Nat.beq_eq ▸ h)]
            show _ = cond (preL (Ls p0) (Ls got)) _ false
            cases preL (Ls p0) (Ls got) with
            | false => rfl
            | true =>
              rw [if_pos rfl, ellBack_L]; rfl
end T1
end SPL1
section SPL4
/-- the choices of the parts -/
noncomputable def subsL : List Int → List (List Int)
  | [] => [[]]
  | x :: r => subsL r ++ (subsL r).map (x :: ·)
noncomputable def allS : List (List Int) := subsL [1, 2, 3, 4, 5, 6]
noncomputable def freZ (z : Int) (ys : List Int) (p : Int) : Bool := (anyEq ys p) != (p == z)
noncomputable def symShort (F : List Int) : List Int := 257 :: F.flatMap (fun p => [16, 7, 257, 14, 256, 35, 256 + p, 14, 52, 8])
noncomputable def symFac (p b : Int) : List Int := [16, 7, 257] ++ (rangeKs 1 (b - 1).toNat).flatMap (fun k => [14, 256, 35, 256 + p * k]) ++ [8]
noncomputable def symBounded (F : List Int) (b : Int) : List Int := 257 :: F.flatMap (fun p => symFac p b)
noncomputable def wdigs (U : Int) : Nat → Int → List Int
  | 0, _ => []
  | n + 1, N => Int.fmod N U :: wdigs U n (Int.fdiv N U)
noncomputable def partL : List Int → Int → Int
  | [], k => k
  | x :: r, k => if x == 0 then partL r (k + 1) else k
noncomputable def okV (cs : List Int) : Bool := cs.all fun c => decide (0 ≤ c) && decide (c ≤ 11)
noncomputable def okW (cs : List Int) (U : Int) (sy : List Int) : Bool := match worthP U (U ^ 6) (sy ++ [0]) with
  | some N => decide (0 ≤ N) && decide (N < 10 ^ 280) && (wdigs U 7 N == cs)
  | none => false
noncomputable def okD (b : Int) (bs : List Int) (z : Int) : Bool :=
  let ps := bs.filter (plnF b bs)
  let fs := (rangeKs 1 6).filter (freZ z ps)
  let cs := countsP fs 7
  let cl := countsP bs b
  let xs := excL b fs bs
  let pt := partL xs 1
  (allS.contains ps) && (allS.contains fs) && ((rangeKs 1 7).all fun j => (cs.take j.toNat == cl.take j.toNat) == decide (j ≤ pt)) && (if pt < 7 then cl.getD pt.toNat 0 == cs.getD pt.toNat 0 - xs.getD (pt - 1).toNat 0 else true)
theorem okW4 : (allS.all fun fs => okW (countsP fs 7) (10 ^ 4) (symShort fs)) = true := by decide +kernel
theorem okB42 : (allS.all fun bs => okW (countsP bs 2) (10 ^ 4) (symBounded bs 2)) = true := by decide +kernel
theorem okB43 : (allS.all fun bs => okW (countsP bs 3) (10 ^ 4) (symBounded bs 3)) = true := by decide +kernel
theorem okW5 : (allS.all fun fs => okW (countsP fs 7) (10 ^ 5) (symShort fs)) = true := by decide +kernel
theorem okB52 : (allS.all fun bs => okW (countsP bs 2) (10 ^ 5) (symBounded bs 2)) = true := by decide +kernel
theorem okB53 : (allS.all fun bs => okW (countsP bs 3) (10 ^ 5) (symBounded bs 3)) = true := by decide +kernel
theorem okW6 : (allS.all fun fs => okW (countsP fs 7) (10 ^ 6) (symShort fs)) = true := by decide +kernel
theorem okB62 : (allS.all fun bs => okW (countsP bs 2) (10 ^ 6) (symBounded bs 2)) = true := by decide +kernel
theorem okB63 : (allS.all fun bs => okW (countsP bs 3) (10 ^ 6) (symBounded bs 3)) = true := by decide +kernel
theorem okD21 : (allS.all fun bs => okD 2 bs 1) = true := by decide +kernel
theorem okD22 : (allS.all fun bs => okD 2 bs 2) = true := by decide +kernel
theorem okD23 : (allS.all fun bs => okD 2 bs 3) = true := by decide +kernel
theorem okD24 : (allS.all fun bs => okD 2 bs 4) = true := by decide +kernel
theorem okD25 : (allS.all fun bs => okD 2 bs 5) = true := by decide +kernel
theorem okD26 : (allS.all fun bs => okD 2 bs 6) = true := by decide +kernel
theorem okD27 : (allS.all fun bs => okD 2 bs 7) = true := by decide +kernel
theorem okD31 : (allS.all fun bs => okD 3 bs 1) = true := by decide +kernel
theorem okD32 : (allS.all fun bs => okD 3 bs 2) = true := by decide +kernel
theorem okD33 : (allS.all fun bs => okD 3 bs 3) = true := by decide +kernel
theorem okD34 : (allS.all fun bs => okD 3 bs 4) = true := by decide +kernel
theorem okD35 : (allS.all fun bs => okD 3 bs 5) = true := by decide +kernel
theorem okD36 : (allS.all fun bs => okD 3 bs 6) = true := by decide +kernel
theorem okD37 : (allS.all fun bs => okD 3 bs 7) = true := by decide +kernel
theorem okV7 : (allS.all fun fs => okV (countsP fs 7)) = true := by decide +kernel
theorem okV2 : (allS.all fun fs => okV (countsP fs 2)) = true := by decide +kernel
theorem okV3 : (allS.all fun fs => okV (countsP fs 3)) = true := by decide +kernel
end SPL4
section SPL2
noncomputable def digL (n : Nat) : List Nat := if Nat.blt n 10 = true then [48 + n] else [48 + n / 10, 48 + n % 10]
noncomputable def shortL (fs : List Int) : List Nat := 49 :: fs.flatMap fun p => 42 :: 40 :: 49 :: 43 :: 120 :: 42 :: 42 :: (digL p.toNat ++ [43, 46, 46, 46, 41])
noncomputable def facL (p n : Nat) : List Nat := 42 :: 40 :: 49 :: ((List.range n).flatMap fun k => 43 :: 120 :: 42 :: 42 :: digL (p * (k + 1))) ++ [41]
noncomputable def longL (fs : List Int) : List Nat := 49 :: fs.flatMap fun p => facL p.toNat (6 / p.toNat + 1)
noncomputable def boundL (fs : List Int) (b : Int) : List Nat := 49 :: fs.flatMap fun p => facL p.toNat (b.toNat - 1)
theorem Ls_append (x y : Str) : Ls (x ++ y) = Ls x ++ Ls y := Array.toList_append ..
theorem glue_run (g : Array Nat) : ∀ (ps : List Str) (acc : Array Nat), (ps.foldl (fun acc p => acc ++ g ++ p.cps) acc).toList = acc.toList ++ ps.flatMap (fun p => g.toList ++ Ls p)
  | [], acc => by simp
  | p :: r, acc => by
    rw [List.foldl_cons, glue_run g r]
    simp [Ls]
theorem Ls_join (ps : List Str) : Ls (Txt.join (Str.ofString "") ps) = ps.flatMap Ls := by
  have e0 : Str.ofString "" = ⟨#[]⟩ := by decide +kernel
  rw [e0]
  show ((ps.drop 1).foldl (fun acc p => acc ++ (#[] : Array Nat) ++ p.cps) (ps.headD Str.empty).cps).toList = _
  rw [glue_run]
  cases ps with
  | nil => rfl
  | cons p r => simp [Ls]
theorem Ls_text {g : Int → Str} {g' : Int → List Nat} (h : ∀ p, 1 ≤ p → p ≤ 6 → Ls (g p) = g' p) {fs : List Int} (hf : ∀ x ∈ fs, 1 ≤ x ∧ x ≤ 6) : Ls (Str.ofString "1" ++ Txt.join (Str.ofString "") (fs.map g)) = 49 :: fs.flatMap g' := by
  have e1 : Ls (Str.ofString "1") = [49] := by decide +kernel
  rw [Ls_append, Ls_join, e1, List.flatMap_map]
  refine congrArg (49 :: ·) (?_ : (fs.flatMap fun a => Ls (g a)) = fs.flatMap g')
  induction fs with
  | nil => rfl
  | cons p r ih =>
    rw [List.flatMap_cons, List.flatMap_cons, h p (hf p List.mem_cons_self).1 (hf p List.mem_cons_self).2, ih fun x hx => hf x (List.mem_cons_of_mem _ hx)]
theorem six {P : Int → Prop} (h1 : P 1) (h2 : P 2) (h3 : P 3) (h4 : P 4) (h5 : P 5) (h6 : P 6) : ∀ p, 1 ≤ p → p ≤ 6 → P p := by
  intro p h h'
  have : p = 1 ∨ p = 2 ∨ p = 3 ∨ p = 4 ∨ p = 5 ∨ p = 6 := enumP7 (by omega) (by omega)
  rcases this with rfl | rfl | rfl | rfl | rfl | rfl <;> assumption
theorem shortL_eq {fs : List Int} (hf : ∀ x ∈ fs, 1 ≤ x ∧ x ≤ 6) : Ls (shortS fs) = shortL fs :=
  Ls_text (six (by decide +kernel) (by decide +kernel) (by decide +kernel) (by decide +kernel) (by decide +kernel) (by decide +kernel)) hf
theorem longL_eq {fs : List Int} (hf : ∀ x ∈ fs, 1 ≤ x ∧ x ≤ 6) : Ls (longS fs) = longL fs :=
  Ls_text (g := fun p => factorS p (Int.fdiv 6 p + 1)) (six (by decide +kernel) (by decide +kernel) (by decide +kernel) (by decide +kernel) (by decide +kernel) (by decide +kernel)) hf
theorem boundL_eq {fs : List Int} {b : Int} (hb : 2 ≤ b ∧ b ≤ 3) (hf : ∀ x ∈ fs, 1 ≤ x ∧ x ≤ 6) : Ls (boundedS fs b) = boundL fs b := by
  have : b = 2 ∨ b = 3 := by omega
  rcases this with rfl | rfl
  · exact Ls_text (g := fun p => factorS p (2 - 1)) (six (by decide +kernel) (by decide +kernel) (by decide +kernel) (by decide +kernel) (by decide +kernel) (by decide +kernel)) hf
  · exact Ls_text (g := fun p => factorS p (3 - 1)) (six (by decide +kernel) (by decide +kernel) (by decide +kernel) (by decide +kernel) (by decide +kernel) (by decide +kernel)) hf
noncomputable def okE (ps : List Int) (z : Int) : Bool :=
  let fs := (rangeKs 1 6).filter (freZ z ps)
  (ellL (shortL fs) (longL ps) == some (takesP fs ps)) && (ellL (shortL ps) (longL fs) == some (takesP ps fs))
theorem okE1 : (allS.all fun ps => okE ps 1) = true := by decide +kernel
theorem okE2 : (allS.all fun ps => okE ps 2) = true := by decide +kernel
theorem okE3 : (allS.all fun ps => okE ps 3) = true := by decide +kernel
theorem okE4 : (allS.all fun ps => okE ps 4) = true := by decide +kernel
theorem okE5 : (allS.all fun ps => okE ps 5) = true := by decide +kernel
theorem okE6 : (allS.all fun ps => okE ps 6) = true := by decide +kernel
theorem okE7 : (allS.all fun ps => okE ps 7) = true := by decide +kernel
end SPL2
section SPL3
open PyProof.Rows in
theorem slice_L {x : Str} {p k : Nat} (hp : p ≤ x.length) : Txt.slice x (some (p : Int)) (some ((p : Int) + (k : Nat))) = ⟨(((Ls x).drop p).take k).toArray⟩ := by
  by_cases h : p + k ≤ x.length
  · have e := beq_iff_eq.mp (slice_closesL (x := x) (i := (p : Int)) (j := (p : Int) + (k : Nat)) (by omega) (by omega) (by omega))
    rw [e, show ((p : Int) + (k : Nat) - p).toNat = k by omega]
    rfl
  · have e0 : Txt.slice x (some (p : Int)) (some ((p : Int) + (k : Nat))) = Txt.slice x (some (p : Int)) (some (x.length : Int)) := by
      have e1 : Builtin.Str.strSliceIndices (some (p : Int)) (some ((p : Int) + (k : Nat))) 1 x.length = Builtin.Str.strSliceIndices (some (p : Int)) (some (x.length : Int)) 1 x.length := by
        unfold Builtin.Str.strSliceIndices
        simp only [show (1 : Int) > 0 by decide, if_true, if_neg (show ¬ ((p : Int) + (k : Nat) < 0) by omega), if_neg (show ¬ ((x.length : Int) < 0) by omega), if_neg (show ¬ ((p : Int) < 0) by omega)]
        congr 1
        omega
      unfold Txt.slice
      rw [e1]
    have e := beq_iff_eq.mp (slice_closesL (x := x) (i := (p : Int)) (j := (x.length : Int)) (by omega) (by omega) (by omega))
    have hl := Ls_len x
    rw [e0, e, List.take_of_length_le (by rw [List.length_drop]; show (Ls x).length - _ ≤ _; omega), List.take_of_length_le (by rw [List.length_drop]; omega)]
    rfl
theorem item_L {x : Str} {p : Nat} {c : Nat} {l : List Nat} (h : (Ls x).drop p = c :: l) : Txt.item x (p : Int) = ⟨#[c]⟩ := by
  have hlt : p < (Ls x).length := by
    by_cases h1 : p < (Ls x).length
    · exact h1
    · rw [List.drop_eq_nil_iff.mpr (by omega)] at h; cases h
  have hc : x.cps[p]? = some c := by
    rw [← Array.getElem?_toList]
    have e : (Ls x)[p]? = ((Ls x).drop p)[0]? := by rw [List.getElem?_drop]; rfl
    show (Ls x)[p]? = _
    rw [e, h]; rfl
  rw [Ls_len] at hlt
  unfold Txt.item Txt.charAt
  have e : seqIndex? (p : Int) x.length = some p := by
    unfold seqIndex?
    simp only [if_neg (show ¬ ((p : Int) < 0) by omega)]
    rw [if_pos (by simp only [Bool.and_eq_true, decide_eq_true_eq]; omega)]
    rfl
  rw [e]
  show (⟨#[(x.cps[p]?).getD 0]⟩ : Str) = _
  rw [hc]; rfl
noncomputable def tabQ : List (List Nat × Int) := [([33], 54), ([33, 61], 28), ([37], 24), ([37, 61], 40), ([38], 19), ([38, 61], 41), ([40], 7), ([41], 8), ([42], 16), ([42, 42], 35), ([42, 42, 61], 46), ([42, 61], 38), ([43], 14), ([43, 61], 36), ([44], 12), ([45], 15), ([45, 61], 37), ([45, 62], 51), ([46], 23), ([46, 46, 46], 52), ([47], 17), ([47, 47], 47), ([47, 47, 61], 48), ([47, 61], 39), ([58], 11), ([58, 61], 53), ([59], 13), ([60], 20), ([60, 60], 33), ([60, 60, 61], 44), ([60, 61], 29), ([61], 22), ([61, 61], 27), ([62], 21), ([62, 61], 30), ([62, 62], 34), ([62, 62, 61], 45), ([64], 49), ([64, 61], 50), ([91], 9), ([93], 10), ([94], 32), ([94, 61], 43), ([123], 25), ([124], 18), ([124, 61], 42), ([125], 26), ([126], 31)]
noncomputable def eqL : List Nat → List Nat → Bool
  | [], [] => true
  | a :: x, b :: y => Nat.beq a b && eqL x y
  | _, _ => false
theorem eqL_iff : ∀ x y : List Nat, eqL x y = true ↔ x = y
  | [], [] => by simp [eqL]
  | [], _ :: _ => by simp [eqL]
  | _ :: _, [] => by simp [eqL]
  | a :: x, b :: y => by
    simp only [eqL, Bool.and_eq_true, Nat.beq_eq, List.cons.injEq, eqL_iff x y]
noncomputable def exactN (w : List Nat) : Option Int := (tabQ.find? fun e => eqL e.1 w).map (·.2)
theorem tabQ_eq : tabS.map (fun e => (Ls e.1, e.2)) = tabQ := by decide +kernel
theorem exact_N (w : List Nat) : exactP ⟨w.toArray⟩ = exactN w := by
  unfold exactP exactN
  rw [← tabQ_eq, List.find?_map, Option.map_map]
  have e : ((fun e : List Nat × Int => eqL e.1 w) ∘ fun e : Str × Int => (Ls e.1, e.2)) = fun e : Str × Int => e.1 == ⟨w.toArray⟩ := by
    funext e
    show eqL (Ls e.1) w = (e.1 == ⟨w.toArray⟩)
    rw [Bool.eq_iff_iff, eqL_iff, beq_iff_eq]
    constructor
    · intro h
      obtain ⟨⟨⟨l⟩⟩, _⟩ := e
      exact congrArg (fun z : List Nat => (⟨z.toArray⟩ : Str)) h
    · intro h; rw [h]
  rw [e]
  rfl
noncomputable def headIs (c : Nat) : List Nat → Bool
  | a :: _ => Nat.beq a c
  | [] => false
noncomputable def grp (c : Nat) : List (List Nat × Int) := cond (Nat.ble 127 c) [] (cond (Nat.beq c 120) [] (cond (Nat.ble 48 c && Nat.ble c 57) [] (cond (Nat.beq c 42) [([42], 16), ([42, 42], 35), ([42, 42, 61], 46), ([42, 61], 38)] (cond (Nat.beq c 40) [([40], 7)] (cond (Nat.beq c 43) [([43], 14), ([43, 61], 36)] (cond (Nat.beq c 41) [([41], 8)] (cond (Nat.beq c 46) [([46], 23), ([46, 46, 46], 52)] (tabQ.filter fun e => headIs c e.1))))))))
noncomputable def exactQ : List Nat → Option Int
  | [] => none
  | c :: w => ((grp c).find? fun e => eqL e.1 (c :: w)).map (·.2)
theorem grp_lo : ((List.range 127).all fun c => decide (grp c = tabQ.filter fun e => headIs c e.1)) = true := by decide +kernel
theorem tab_heads : (tabQ.all fun e => match e.1 with
  | a :: _ => Nat.blt a 127
  | [] => false) = true := by decide +kernel
theorem grp_eq (c : Nat) : grp c = tabQ.filter fun e => headIs c e.1 := by
  by_cases h : c < 127
  · exact of_decide_eq_true (List.all_eq_true.mp grp_lo c (List.mem_range.mpr h))
  · have e1 : grp c = [] := by
      unfold grp
      rw [Nat.ble_eq_true_of_le (show 127 ≤ c by omega)]; rfl
    rw [e1]
    refine (List.filter_eq_nil_iff.mpr fun e he h1 => ?_).symm
    have h2 := List.all_eq_true.mp tab_heads e he
    match hh : e.1 with
    | [] => rw [hh] at h1; cases h1
    | a :: _ =>
      rw [hh] at h1 h2
      have h3 : a = c := Nat.beq_eq.mp h1
      have h4 : a < 127 := Nat.blt_eq.mp h2
      omega
theorem find_filter {α : Type} {p q : α → Bool} : ∀ (l : List α), (∀ x ∈ l, p x = true → q x = true) → (l.filter q).find? p = l.find? p
  | [], _ => rfl
  | a :: l, h => by
    have ih := find_filter l fun x hx => h x (List.mem_cons_of_mem _ hx)
    by_cases hq : q a = true
    · rw [List.filter_cons_of_pos hq]
      cases hp : p a with
      | true => rw [List.find?_cons_of_pos hp, List.find?_cons_of_pos hp]
      | false => rw [List.find?_cons_of_neg (by rw [hp]; exact Bool.false_ne_true), List.find?_cons_of_neg (by rw [hp]; exact Bool.false_ne_true), ih]
    · rw [List.filter_cons_of_neg hq, List.find?_cons_of_neg (fun hp => hq (h a List.mem_cons_self hp)), ih]
theorem exact_Q (w : List Nat) : exactN w = exactQ w := by
  match w with
  | [] => decide +kernel
  | c :: w =>
    show ((tabQ.find? fun e => eqL e.1 (c :: w)).map (·.2)) = ((grp c).find? fun e => eqL e.1 (c :: w)).map (·.2)
    rw [grp_eq, find_filter]
    intro e he h
    have := (eqL_iff _ _).mp h
    rw [this]
    exact Nat.beq_refl c
theorem exact_NQ (w : List Nat) : exactP ⟨w.toArray⟩ = exactQ w := (exact_N w).trans (exact_Q w)
noncomputable def szL (w : List Nat) : Nat → Nat
  | 0 => 0
  | n + 1 => if (exactQ (w.take (n + 1))).isSome then n + 1 else szL w n
noncomputable def isD (c : Nat) : Bool := inDig ⟨#[c]⟩
noncomputable def dgRun : List Nat → Nat
  | [] => 0
  | c :: l => if isD c = true then dgRun l + 1 else 0
noncomputable def lexL : Nat → List Nat → Option (List Int)
  | 0, _ => none
  | _ + 1, [] => some []
  | f + 1, c :: l => if 0 < szL (c :: l) 3 then (exactQ ((c :: l).take (szL (c :: l) 3))).bind fun v => (lexL f ((c :: l).drop (szL (c :: l) 3))).map (v :: ·)
    else if Nat.beq c 120 = true then (lexL f l).map (256 :: ·)
    else (PySem.intText? ⟨((c :: l).take (dgRun l + 1)).toArray⟩).bind fun v => (lexL f (l.drop (dgRun l))).map ((256 + v) :: ·)
theorem size_L {x : Str} {p : Nat} (hp : p ≤ x.length) : ∀ n, sizeP x (p : Int) n = szL ((Ls x).drop p) n
  | 0 => by unfold sizeP szL; rfl
  | n + 1 => by
    unfold sizeP szL
    rw [show (p : Int) + ((n : Int) + 1) = (p : Int) + ((n + 1 : Nat) : Int) by omega, slice_L hp, exact_NQ, size_L hp n]
theorem dig_L {x : Str} {p : Nat} : ∀ (f s : Nat), p + s ≤ x.length → x.length ≤ p + s + f → digP x (p : Int) f (s : Int) = ((s + dgRun ((Ls x).drop (p + s)) : Nat) : Int)
  | 0, s, h1, h2 => by
    unfold digP
    rw [List.drop_eq_nil_iff.mpr (by rw [Ls_len]; omega)]
    rfl
  | f + 1, s, h1, h2 => by
    unfold digP
    cases hl : (Ls x).drop (p + s) with
    | nil =>
      have := List.drop_eq_nil_iff.mp hl
      rw [Ls_len] at this
      rw [if_neg (by omega)]; rfl
    | cons c l =>
      have hlt : p + s < x.length := by
        rw [← Ls_len]
        by_cases h : p + s < (Ls x).length
        · exact h
        · rw [List.drop_eq_nil_iff.mpr (by omega)] at hl; cases hl
      have hl2 : (Ls x).drop (p + (s + 1)) = l := by rw [← Nat.add_assoc, ← List.tail_drop, hl]; rfl
      rw [if_pos (by omega), show (p : Int) + (s : Int) = ((p + s : Nat) : Int) by omega, item_L hl]
      unfold dgRun
      show (if isD c = true then _ else _) = _
      cases isD c with
      | true =>
        rw [if_pos rfl, if_pos rfl, show (s : Int) + 1 = ((s + 1 : Nat) : Int) by omega, dig_L f (s + 1) (by omega) (by omega), hl2]
        omega
      | false => rw [if_neg Bool.false_ne_true, if_neg Bool.false_ne_true]; rfl
theorem lex_eq {x : Str} : ∀ (f p : Nat), symsP x f (p : Int) = lexL f ((Ls x).drop p)
  | 0, p => by unfold symsP symsG lexL; rfl
  | f + 1, p => by
    have ih := fun q => lex_eq (x := x) f q
    unfold symsP at ih ⊢
    unfold symsG
    cases hl : (Ls x).drop p with
    | nil =>
      have := List.drop_eq_nil_iff.mp hl
      rw [Ls_len] at this
      rw [if_neg (by omega)]; rfl
    | cons c l =>
      have hlt : p < x.length := by
        rw [← Ls_len]
        by_cases h : p < (Ls x).length
        · exact h
        · rw [List.drop_eq_nil_iff.mpr (by omega)] at hl; cases hl
      have hp : p ≤ x.length := by omega
      have hl2 : (Ls x).drop (p + 1) = l := by rw [← List.tail_drop, hl]; rfl
      have hlen : (c :: l).length = x.length - p := by rw [← hl, List.length_drop, Ls_len]
      rw [if_pos (by omega), size_L hp 3, hl]
      unfold lexL
      have h3 : szL (c :: l) 3 ≤ 3 := by unfold szL; split; · exact Nat.le_refl _
                                         unfold szL; split; · decide
                                         unfold szL; split; · decide
                                         unfold szL; decide
      by_cases hz : 0 < szL (c :: l) 3
      · rw [if_pos hz, if_pos hz, slice_L hp, hl, exact_NQ]
        cases he : exactQ ((c :: l).take (szL (c :: l) 3)) with
        | none => rfl
        | some v =>
          show Option.map _ _ = Option.map _ _
          congr 1
          rw [show (p : Int) + ((szL (c :: l) 3 : Nat) : Int) = ((p + szL (c :: l) 3 : Nat) : Int) by omega, ih, ← List.drop_drop, hl]
      · rw [if_neg hz, if_neg hz, item_L hl]
        have ex : ((⟨#[c]⟩ : Str) == Str.ofString "x") = Nat.beq c 120 := by
          have e0 : Str.ofString "x" = ⟨#[120]⟩ := by decide +kernel
          rw [e0, Bool.eq_iff_iff, beq_iff_eq, Nat.beq_eq]
          constructor
          · intro h; injection h with h; injection h with h; injection h
          · intro h; rw [h]
        rw [ex]
        cases Nat.beq c 120 with
        | true =>
          rw [if_pos rfl, if_pos rfl, show (p : Int) + 1 = ((p + 1 : Nat) : Int) by omega, ih (p + 1), hl2]
        | false =>
          rw [if_neg Bool.false_ne_true, if_neg Bool.false_ne_true]
          have hd := dig_L (x := x) (p := p) x.length 1 (by omega) (by omega)
          rw [hl2] at hd
          rw [show ((1 : Nat) : Int) = 1 from rfl] at hd
          rw [hd, slice_L hp, hl, Nat.add_comm 1 (dgRun l)]
          cases PySem.intText? ⟨((c :: l).take (dgRun l + 1)).toArray⟩ with
          | none => rfl
          | some v =>
            show Option.map _ _ = Option.map _ _
            congr 1
            rw [show (p : Int) + ((dgRun l + 1 : Nat) : Int) = ((p + 1 + dgRun l : Nat) : Int) by omega, ih, ← List.drop_drop, hl2]
theorem lexS_all : (allS.all fun fs => lexL 120 (shortL fs) == some (symShort fs)) = true := by decide +kernel
theorem lexB2_all : (allS.all fun fs => lexL 200 (boundL fs 2) == some (symBounded fs 2)) = true := by decide +kernel
theorem lexB3_all : (allS.all fun fs => lexL 200 (boundL fs 3) == some (symBounded fs 3)) = true := by decide +kernel
end SPL3
section SPL5
noncomputable def wrest (U : Int) : Nat → Int → Int
  | 0, N => N
  | n + 1, N => wrest U n (Int.fdiv N U)
/-- a row of groups -/
noncomputable def wordsS (w f : Int) (R : Int) (cs : List Int) : List Str := Str.ofString (toString R) :: ((cs.reverse.map (padS w)) ++ [padS f 0])
theorem fold_rep (w : Int) : ∀ (n : Nat) (N : Int) (acc : List Str), (List.replicate n w).foldl groupStep (N, acc) = (wrest (10 ^ w.toNat) n N, ((wdigs (10 ^ w.toNat) n N).reverse.map (padS w)) ++ acc)
  | 0, N, acc => rfl
  | n + 1, N, acc => by
    rw [List.replicate_succ, List.foldl_cons]
    show (List.replicate n w).foldl groupStep (Int.fdiv N (10 ^ w.toNat), padS w (Int.fmod N (10 ^ w.toNat)) :: acc) = _
    rw [fold_rep w n]
    show _ = (wrest (10 ^ w.toNat) n (Int.fdiv N (10 ^ w.toNat)), ((Int.fmod N (10 ^ w.toNat) :: wdigs (10 ^ w.toNat) n (Int.fdiv N (10 ^ w.toNat))).reverse.map (padS w)) ++ acc)
    rw [List.reverse_cons, List.map_append, List.append_assoc]
    rfl
theorem groups_words {N w f kd : Int} (hf : 1 ≤ f ∧ f ≤ 9) : groupsS N (toldP kd w f) = wordsS w f (wrest (10 ^ w.toNat) 7 N) (wdigs (10 ^ w.toNat) 7 N) := by
  have hp := powFit (x := f) (by omega) hf.2
  have e1 : (toldP kd w f).take 8 = f :: List.replicate 7 w := by
    unfold toldP; split <;> rfl
  have e2 : (toldP kd w f).getD 0 0 = f := by
    unfold toldP; split <;> rfl
  unfold groupsS
  rw [e1, e2, List.foldl_cons]
  have e3 : groupStep (N * 10 ^ f.toNat, []) f = (N, [padS f 0]) := by
    unfold groupStep
    have h1 : Int.fdiv (N * 10 ^ f.toNat) (10 ^ f.toNat) = N := Int.mul_fdiv_cancel _ (by omega)
    have h2 : Int.fmod (N * 10 ^ f.toNat) (10 ^ f.toNat) = 0 := Int.mul_fmod_left _ _
    dsimp only
    rw [h1, h2]
  rw [e3, fold_rep]
  rfl
theorem wdigs_len (U : Int) : ∀ (n : Nat) (N : Int), (wdigs U n N).length = n
  | 0, _ => rfl
  | n + 1, N => by unfold wdigs; rw [List.length_cons, wdigs_len U n]
theorem pad_facts : ([4, 5, 6].all fun w : Int => (rangeKs 0 12).all fun c => decide (PySem.intText? (padS w c) = some c) && decide ((padS w c).length = w.toNat) && !((Ls (padS w c)).contains 46)) = true := by decide +kernel
theorem pad_at {w c : Int} (hw : 4 ≤ w ∧ w ≤ 6) (hc : 0 ≤ c ∧ c ≤ 11) : PySem.intText? (padS w c) = some c ∧ (padS w c).length = w.toNat ∧ (Ls (padS w c)).contains 46 = false := by
  have h1 : w ∈ ([4, 5, 6] : List Int) := by
    have : w = 4 ∨ w = 5 ∨ w = 6 := by omega
    rcases this with rfl | rfl | rfl <;> decide
  have h2 : c ∈ rangeKs 0 12 := by
    have : c = 0 ∨ c = 1 ∨ c = 2 ∨ c = 3 ∨ c = 4 ∨ c = 5 ∨ c = 6 ∨ c = 7 ∨ c = 8 ∨ c = 9 ∨ c = 10 ∨ c = 11 := enumZ12 (by omega) (by omega)
    rcases this with rfl | rfl | rfl | rfl | rfl | rfl | rfl | rfl | rfl | rfl | rfl | rfl <;> decide
  have h := List.all_eq_true.mp (List.all_eq_true.mp pad_facts w h1) c h2
  simp only [Bool.and_eq_true, decide_eq_true_eq, Bool.not_eq_true'] at h
  exact ⟨h.1.1, h.1.2, h.2⟩
theorem zero_facts : ((rangeKs 1 9).all fun f => decide ((padS f 0).length = f.toNat) && !((Ls (padS f 0)).contains 46)) = true := by decide +kernel
theorem zero_at {f : Int} (hf : 1 ≤ f ∧ f ≤ 9) : (padS f 0).length = f.toNat ∧ (Ls (padS f 0)).contains 46 = false := by
  have h1 : f ∈ rangeKs 1 9 := by
    have : f = 1 ∨ f = 2 ∨ f = 3 ∨ f = 4 ∨ f = 5 ∨ f = 6 ∨ f = 7 ∨ f = 8 ∨ f = 9 := enumP10 (by omega) (by omega)
    rcases this with rfl | rfl | rfl | rfl | rfl | rfl | rfl | rfl | rfl <;> decide
  have h := List.all_eq_true.mp zero_facts f h1
  simp only [Bool.and_eq_true, decide_eq_true_eq, Bool.not_eq_true'] at h
  exact h
theorem okV_mem {cs : List Int} (h : okV cs = true) : ∀ c ∈ cs, 0 ≤ c ∧ c ≤ 11 := fun c hc => by
  have := List.all_eq_true.mp h c hc
  simp only [Bool.and_eq_true, decide_eq_true_eq] at this
  exact this
theorem seven {cs : List Int} (h : cs.length = 7) : ∃ a b c d e f g, cs = [a, b, c, d, e, f, g] := by
  match cs, h with
  | [a, b, c, d, e, f, g], _ => exact ⟨a, b, c, d, e, f, g, rfl⟩
theorem words_at {w f R : Int} {cs : List Int} (hl : cs.length = 7) {k : Int} (h0 : 0 ≤ k) (h7 : k < 7) : (wordsS w f R cs).getD (7 - k).toNat Str.empty = padS w (cs.getD k.toNat 0) := by
  obtain ⟨a, b, c, d, e, f', g, rfl⟩ := seven hl
  have : k = 0 ∨ k = 1 ∨ k = 2 ∨ k = 3 ∨ k = 4 ∨ k = 5 ∨ k = 6 := enumZ7 (by omega) (by omega)
  rcases this with rfl | rfl | rfl | rfl | rfl | rfl | rfl <;> rfl
theorem words_drop {w f R : Int} {cs : List Int} (hl : cs.length = 7) {j : Int} (h0 : 1 ≤ j) (h7 : j < 8) : (wordsS w f R cs).drop (8 - j).toNat = ((cs.take j.toNat).reverse.map (padS w)) ++ [padS f 0] := by
  obtain ⟨a, b, c, d, e, f', g, rfl⟩ := seven hl
  have : j = 1 ∨ j = 2 ∨ j = 3 ∨ j = 4 ∨ j = 5 ∨ j = 6 ∨ j = 7 := enumP8 (by omega) (by omega)
  rcases this with rfl | rfl | rfl | rfl | rfl | rfl | rfl <;> rfl
theorem getD_all {cs : List Int} (hl : cs.length = 7) : (rangeKs 0 7).map (fun k => cs.getD k.toNat 0) = cs := by
  obtain ⟨a, b, c, d, e, f, g, rfl⟩ := seven hl
  rfl
theorem words_len {w f R : Int} {cs : List Int} (hl : cs.length = 7) : (wordsS w f R cs).length = 9 := by
  obtain ⟨a, b, c, d, e, f', g, rfl⟩ := seven hl
  rfl
theorem words_sum {w f R : Int} {cs : List Int} (hw : 4 ≤ w ∧ w ≤ 6) (hf : 1 ≤ f ∧ f ≤ 9) (hl : cs.length = 7) (hv : ∀ c ∈ cs, 0 ≤ c ∧ c ≤ 11) (hR : 0 ≤ R) (hR2 : R < 10 ^ 280) : ((wordsS w f R cs).map (·.length)).sum ≤ 400 := by
  obtain ⟨a, b, c, d, e, f', g, rfl⟩ := seven hl
  have h0 := (zero_at hf).1
  have h1 := (pad_at hw (hv a (by simp))).2.1
  have h2 := (pad_at hw (hv b (by simp))).2.1
  have h3 := (pad_at hw (hv c (by simp))).2.1
  have h4 := (pad_at hw (hv d (by simp))).2.1
  have h5 := (pad_at hw (hv e (by simp))).2.1
  have h6 := (pad_at hw (hv f' (by simp))).2.1
  have h7 := (pad_at hw (hv g (by simp))).2.1
  have hr := toString_length_le hR (k := 280) (by decide) hR2
  show ((Str.ofString (toString R)).length + ((padS w g).length + ((padS w f').length + ((padS w e).length + ((padS w d).length + ((padS w c).length + ((padS w b).length + ((padS w a).length + ((padS f 0).length + 0))))))))) ≤ 400
  omega
theorem wrest_bd {U : Int} (hU : 0 < U) : ∀ (n : Nat) (N : Int), 0 ≤ N → 0 ≤ wrest U n N ∧ wrest U n N ≤ N
  | 0, N, h => ⟨h, Int.le_refl _⟩
  | n + 1, N, h => by
    have e : Int.fdiv N U = N / U := Int.fdiv_eq_ediv_of_nonneg _ (by omega)
    have h1 : 0 ≤ N / U := Int.ediv_nonneg h (by omega)
    have h2 : N / U ≤ N := Int.ediv_le_self _ h
    have := wrest_bd hU n (N / U) h1
    show 0 ≤ wrest U n (Int.fdiv N U) ∧ wrest U n (Int.fdiv N U) ≤ N
    rw [e]
    exact ⟨this.1, Int.le_trans this.2 h2⟩
/-- commas ahead of each -/
noncomputable def catL (ws : List (List Nat)) : List Nat := ws.flatMap (fun p => 44 :: p)
theorem Ls_comma (p : Str) (r : List Str) : Ls (Txt.join (Str.ofString ",") (p :: r)) = Ls p ++ catL (r.map Ls) := by
  have e0 : Str.ofString "," = ⟨#[44]⟩ := by decide +kernel
  rw [e0]
  show ((r).foldl (fun acc p => acc ++ (#[44] : Array Nat) ++ p.cps) p.cps).toList = _
  rw [glue_run]
  show Ls p ++ _ = _
  congr 1
  unfold catL
  rw [List.flatMap_map]
  rfl
theorem catL_append (a b : List (List Nat)) : catL (a ++ b) = catL a ++ catL b := List.flatMap_append ..
theorem Ls_want (p : Str) (r : List Str) : Ls (Str.ofString "...," ++ Txt.join (Str.ofString ",") (p :: r)) = 46 :: 46 :: 46 :: catL ((p :: r).map Ls) := by
  have e0 : Ls (Str.ofString "...,") = [46, 46, 46, 44] := by decide +kernel
  rw [Ls_append, e0, Ls_comma]
  rfl
theorem nb {a c : Nat} (h : (a == c) = false) : Nat.beq a c = false := by
  rw [beq_eq_false_iff_ne] at h
  rw [Bool.eq_false_iff]
  exact fun hh => h (Nat.beq_eq.mp hh)
theorem occ_none46 {hi limit : Nat} : ∀ (p : List Nat) (i free cnt : Nat), p.contains 46 = false → occL dotsL 3 hi limit p i free cnt = []
  | [], i, free, cnt, _ => rfl
  | c :: p, i, free, cnt, h => by
    rw [List.contains_cons, Bool.or_eq_false_iff] at h
    have e : preL dotsL (c :: p) = false := by
      show (Nat.beq 46 c && _) = false
      rw [nb h.1]; rfl
    unfold occL
    rw [e]
    exact occ_none46 p (i + 1) free cnt h.2
theorem ellL_dots {c : Nat} {p : List Nat} (got : List Nat) (h : (c :: p).contains 46 = false) : ellL (46 :: 46 :: 46 :: c :: p) got = some (endL got (c :: p)) := by
  have hc : Nat.beq 46 c = false := by
    rw [List.contains_cons, Bool.or_eq_false_iff] at h
    exact nb h.1
  have e1 : preL dotsL (46 :: 46 :: c :: p) = false := by
    show (Nat.beq 46 46 && (Nat.beq 46 46 && (Nat.beq 46 c && _))) = false
    rw [hc]; rfl
  have e2 : preL dotsL (46 :: c :: p) = false := by
    show (Nat.beq 46 46 && (Nat.beq 46 c && _)) = false
    rw [hc]; rfl
  have e3 : occL dotsL 3 (46 :: 46 :: 46 :: c :: p).length ((46 :: 46 :: 46 :: c :: p).length + 1) (46 :: 46 :: 46 :: c :: p) 0 0 0 = [0] := by
    have l1 : Nat.ble (0 + 3) (46 :: 46 :: 46 :: c :: p).length = true := Nat.ble_eq_true_of_le (by simp)
    have l2 : Nat.blt 0 ((46 :: 46 :: 46 :: c :: p).length + 1) = true := Nat.blt_eq.mpr (by omega)
    rw [occL, show preL dotsL (46 :: 46 :: 46 :: c :: p) = true from rfl, l1, l2]
    show 0 :: occL dotsL 3 _ _ (46 :: 46 :: c :: p) 1 3 1 = [0]
    rw [occL, e1]
    show 0 :: occL dotsL 3 _ _ (46 :: c :: p) 2 3 1 = [0]
    rw [occL, e2]
    show 0 :: occL dotsL 3 _ _ (c :: p) 3 3 1 = [0]
    rw [occ_none46 _ _ _ _ h]
  unfold ellL
  rw [e3]
  show some (cond (endL got (c :: p)) (tailL got 0 (got.length - (c :: p).length) [[]]) false) = some (endL got (c :: p))
  congr 1
  cases endL got (c :: p) with
  | false => rfl
  | true =>
    show tailL got 0 _ [[]] = true
    unfold tailL
    show ellLoopL _ got [[]] 0 = true
    cases got with
    | nil => rfl
    | cons a l => rfl
theorem endL_eq {X p q : List Nat} (h : p.length = q.length) : endL (X ++ q) p = decide (p = q) := by
  unfold endL
  have e1 : (X ++ q).length - p.length = X.length := by rw [List.length_append, h]; omega
  rw [e1, List.drop_left, Nat.ble_eq_true_of_le (show p.length ≤ (X ++ q).length by rw [List.length_append]; omega), Bool.true_and, Bool.eq_iff_iff, preL_iff, decide_eq_true_iff, List.take_of_length_le (by omega)]
  exact eq_comm
theorem catL_len {w : Int} (hw : 4 ≤ w ∧ w ≤ 6) {z : List Nat} : ∀ {as bs : List Int}, as.length = bs.length → (∀ c ∈ as, 0 ≤ c ∧ c ≤ 11) → (∀ c ∈ bs, 0 ≤ c ∧ c ≤ 11) →
    (catL ((as.map fun c => Ls (padS w c)) ++ [z])).length = (catL ((bs.map fun c => Ls (padS w c)) ++ [z])).length
  | [], [], _, _, _ => rfl
  | a :: as, b :: bs, hl, ha, hb => by
    have ih := catL_len hw (z := z) (as := as) (bs := bs) (by simpa using hl) (fun c hc => ha c (List.mem_cons_of_mem _ hc)) (fun c hc => hb c (List.mem_cons_of_mem _ hc))
    have h1 := (pad_at hw (ha a List.mem_cons_self)).2.1
    have h2 := (pad_at hw (hb b List.mem_cons_self)).2.1
    show (44 :: (Ls (padS w a)) ++ catL ((as.map fun c => Ls (padS w c)) ++ [z])).length = (44 :: (Ls (padS w b)) ++ catL ((bs.map fun c => Ls (padS w c)) ++ [z])).length
    rw [List.length_append, List.length_append, List.length_cons, List.length_cons, Ls_len, Ls_len, h1, h2, ih]
theorem catL_inj {w : Int} (hw : 4 ≤ w ∧ w ≤ 6) {z : List Nat} : ∀ {as bs : List Int}, as.length = bs.length → (∀ c ∈ as, 0 ≤ c ∧ c ≤ 11) → (∀ c ∈ bs, 0 ≤ c ∧ c ≤ 11) →
    catL ((as.map fun c => Ls (padS w c)) ++ [z]) = catL ((bs.map fun c => Ls (padS w c)) ++ [z]) → as = bs
  | [], [], _, _, _, _ => rfl
  | a :: as, b :: bs, hl, ha, hb, he => by
    have h1 := pad_at hw (ha a List.mem_cons_self)
    have h2 := pad_at hw (hb b List.mem_cons_self)
    have he' : Ls (padS w a) ++ catL ((as.map fun c => Ls (padS w c)) ++ [z]) = Ls (padS w b) ++ catL ((bs.map fun c => Ls (padS w c)) ++ [z]) := (List.cons.inj he).2
    have h3 := List.append_inj he' (by rw [Ls_len, Ls_len, h1.2.1, h2.2.1])
    have ih := catL_inj hw (z := z) (as := as) (bs := bs) (by simpa using hl) (fun c hc => ha c (List.mem_cons_of_mem _ hc)) (fun c hc => hb c (List.mem_cons_of_mem _ hc)) h3.2
    have e : padS w a = padS w b := by
      have := h3.1
      generalize padS w a = x at this
      generalize padS w b = y at this
      cases x; cases y
      exact congrArg Str.mk (Array.toList_inj.mp this)
    have h4 := h1.1
    rw [e, h2.1] at h4
    rw [Option.some.inj h4, ih]
end SPL5
section SPL6
theorem no46_mem {l : List Nat} : l.contains 46 = false ↔ 46 ∉ l := by
  rw [List.contains_eq_mem, decide_eq_false_iff_not]
theorem catL_no46 : ∀ ws : List (List Nat), (∀ x ∈ ws, x.contains 46 = false) → (catL ws).contains 46 = false
  | [], _ => rfl
  | x :: r, h => by
    have h1 := no46_mem.mp (h x List.mem_cons_self)
    have h2 := no46_mem.mp (catL_no46 r fun y hy => h y (List.mem_cons_of_mem _ hy))
    refine no46_mem.mpr ?_
    show 46 ∉ 44 :: x ++ catL r
    rw [List.cons_append, List.mem_cons, List.mem_append]
    rintro (h | h | h)
    · cases h
    · exact h1 h
    · exact h2 h
theorem match_words {w f R R' : Int} {cs cl : List Int} {j : Int} (hw : 4 ≤ w ∧ w ≤ 6) (hf : 1 ≤ f ∧ f ≤ 9) (hl : cs.length = 7) (hl' : cl.length = 7) (hv : ∀ c ∈ cs, 0 ≤ c ∧ c ≤ 11) (hv' : ∀ c ∈ cl, 0 ≤ c ∧ c ≤ 11) (h1 : 1 ≤ j) (h8 : j < 8) :
    ellP (Str.ofString "...," ++ Txt.join (Str.ofString ",") ((wordsS w f R cs).drop (8 - j).toNat)) (Txt.join (Str.ofString ",") (wordsS w f R' cl)) = some (decide (cs.take j.toNat = cl.take j.toNat)) := by
  have e1 := words_drop (w := w) (f := f) (R := R) hl h1 h8
  have e2 := words_drop (w := w) (f := f) (R := R') hl' h1 h8
  have em : ∀ A : List Int, (A.map (padS w) ++ [padS f 0]).map Ls = (A.map fun c => Ls (padS w c)) ++ [Ls (padS f 0)] := fun A => by
    rw [List.map_append, List.map_map]; rfl
  have m1 : ∀ c ∈ (cs.take j.toNat).reverse, 0 ≤ c ∧ c ≤ 11 := fun c hc => hv c (List.mem_of_mem_take (List.mem_reverse.mp hc))
  have m2 : ∀ c ∈ (cl.take j.toNat).reverse, 0 ≤ c ∧ c ≤ 11 := fun c hc => hv' c (List.mem_of_mem_take (List.mem_reverse.mp hc))
  have ml : (cs.take j.toNat).reverse.length = (cl.take j.toNat).reverse.length := by
    rw [List.length_reverse, List.length_reverse, List.length_take, List.length_take, hl, hl']
  obtain ⟨p, r, ep⟩ : ∃ p r, (cs.take j.toNat).reverse.map (padS w) ++ [padS f 0] = p :: r := by
    cases (cs.take j.toNat).reverse.map (padS w) with
    | nil => exact ⟨_, _, rfl⟩
    | cons a b => exact ⟨_, _, rfl⟩
  have hn46 : (catL ((p :: r).map Ls)).contains 46 = false := by
    rw [← ep, em]
    refine catL_no46 _ fun x hx => ?_
    rcases List.mem_append.mp hx with hx | hx
    · obtain ⟨c, hc, rfl⟩ := List.mem_map.mp hx
      exact (pad_at hw (m1 c hc)).2.2
    · rw [List.mem_singleton.mp hx]; exact (zero_at hf).2
  obtain ⟨q, s, eq⟩ : ∃ q s, (wordsS w f R' cl).take (8 - j).toNat = q :: s := by
    have : (8 - j).toNat = (7 - j).toNat + 1 := by omega
    rw [this]
    exact ⟨_, _, rfl⟩
  have epage : Ls (Txt.join (Str.ofString ",") (wordsS w f R' cl)) = (Ls q ++ catL (s.map Ls)) ++ catL (((cl.take j.toNat).reverse.map fun c => Ls (padS w c)) ++ [Ls (padS f 0)]) := by
    rw [← List.take_append_drop (8 - j).toNat (wordsS w f R' cl), eq, e2, List.cons_append, Ls_comma, List.map_append, em, catL_append, List.append_assoc]
  rw [e1, ep, ell_L, Ls_want, epage]
  have hcons : catL ((p :: r).map Ls) = 44 :: (Ls p ++ catL (r.map Ls)) := rfl
  rw [hcons]
  rw [hcons] at hn46
  rw [ellL_dots _ hn46, ← hcons, ← ep, em, endL_eq (catL_len hw ml m1 m2)]
  congr 1
  rw [Bool.eq_iff_iff, decide_eq_true_iff, decide_eq_true_iff]
  constructor
  · intro h
    have := catL_inj hw ml m1 m2 h
    have h9 := congrArg List.reverse this
    rwa [List.reverse_reverse, List.reverse_reverse] at h9
  · intro h; rw [h]
theorem wd_sub {U : Int} (hU : 1 < U) {c' : Int} (h0 : 0 ≤ c') (h1 : c' < U) : ∀ (p n : Nat) (N e : Int), p < n → (wdigs U n N).getD p 0 - e = c' → (wdigs U n (N - e * U ^ p)).take (p + 1) = (wdigs U n N).take p ++ [c']
  | 0, n + 1, N, e, _, hc => by
    have e1 : Int.fmod N U = N % U := Int.fmod_eq_emod_of_nonneg _ (by omega)
    have e2 : Int.fmod (N - e * U ^ 0) U = (N - e * U ^ 0) % U := Int.fmod_eq_emod_of_nonneg _ (by omega)
    have hc2 : Int.fmod N U - e = c' := hc
    show [Int.fmod (N - e * U ^ 0) U] = [c']
    rw [e2, Int.pow_zero, Int.mul_one]
    rw [e1] at hc2
    have h3 : N - e = c' + U * (N / U) := by have := Int.mul_ediv_add_emod N U; omega
    rw [h3, Int.add_mul_emod_self_left, Int.emod_eq_of_lt h0 h1]
  | p + 1, n + 1, N, e, hp, hc => by
    have e1 : N - e * U ^ (p + 1) = N + U * (-(e * U ^ p)) := by rw [Int.pow_succ, Int.mul_neg, Int.mul_comm U, Int.mul_assoc]; rfl
    have e2 : Int.fmod (N - e * U ^ (p + 1)) U = Int.fmod N U := by
      rw [e1, Int.fmod_eq_emod_of_nonneg _ (by omega), Int.fmod_eq_emod_of_nonneg _ (by omega), Int.add_mul_emod_self_left]
    have e3 : Int.fdiv (N - e * U ^ (p + 1)) U = Int.fdiv N U - e * U ^ p := by
      rw [e1, Int.fdiv_eq_ediv_of_nonneg _ (by omega), Int.fdiv_eq_ediv_of_nonneg _ (by omega), Int.add_mul_ediv_left _ _ (by omega)]; rfl
    have ih := wd_sub hU h0 h1 p n (Int.fdiv N U) e (by omega) hc
    show (Int.fmod (N - e * U ^ (p + 1)) U :: wdigs U n (Int.fdiv (N - e * U ^ (p + 1)) U)).take (p + 2) = (Int.fmod N U :: wdigs U n (Int.fdiv N U)).take (p + 1) ++ [c']
    rw [e2, e3, List.take_succ_cons, ih, List.take_succ_cons, List.cons_append]
theorem wd_ge {U : Int} (hU : 1 < U) : ∀ (p n : Nat) (N : Int), p < n → 0 ≤ N → (wdigs U n N).getD p 0 * U ^ p ≤ N
  | 0, n + 1, N, _, hN => by
    have e1 : Int.fmod N U = N % U := Int.fmod_eq_emod_of_nonneg _ (by omega)
    show Int.fmod N U * U ^ 0 ≤ N
    rw [e1, Int.pow_zero, Int.mul_one]
    have h1 := Int.mul_ediv_add_emod N U
    have h2 : 0 ≤ U * (N / U) := Int.mul_nonneg (by omega) (Int.ediv_nonneg hN (by omega))
    omega
  | p + 1, n + 1, N, hp, hN => by
    have e1 : Int.fdiv N U = N / U := Int.fdiv_eq_ediv_of_nonneg _ (by omega)
    have ih := wd_ge hU p n (N / U) (by omega) (Int.ediv_nonneg hN (by omega))
    show (wdigs U n (Int.fdiv N U)).getD p 0 * U ^ (p + 1) ≤ N
    rw [e1, Int.pow_succ, ← Int.mul_assoc]
    have h1 := Int.mul_le_mul_of_nonneg_right ih (show 0 ≤ U by omega)
    have h2 : N / U * U ≤ N := Int.ediv_mul_le N (by omega)
    omega
end SPL6
section SPL7
theorem allP_facts : (allS.all fun fs => decide (fs.length ≤ 6) && fs.all fun x => decide (1 ≤ x) && decide (x ≤ 6)) = true := by decide +kernel
theorem allS_parts {fs : List Int} (h : fs ∈ allS) : Parts fs := by
  have := List.all_eq_true.mp allP_facts fs h
  simp only [Bool.and_eq_true, decide_eq_true_eq, List.all_eq_true] at this
  exact ⟨this.1, this.2⟩
theorem allL_facts : (allS.all fun fs => Nat.ble (shortL fs).length 600 && (Nat.ble (longL fs).length 600 && (Nat.ble (boundL fs 2).length 600 && Nat.ble (boundL fs 3).length 600))) = true := by decide +kernel
theorem len_short {fs : List Int} (h : fs ∈ allS) : (shortS fs).length ≤ 600 := by
  have := List.all_eq_true.mp allL_facts fs h
  simp only [Bool.and_eq_true, Nat.ble_eq] at this
  rw [← Ls_len, shortL_eq (allS_parts h).2]
  exact this.1
theorem len_long {fs : List Int} (h : fs ∈ allS) : (longS fs).length ≤ 600 := by
  have := List.all_eq_true.mp allL_facts fs h
  simp only [Bool.and_eq_true, Nat.ble_eq] at this
  rw [← Ls_len, longL_eq (allS_parts h).2]
  exact this.2.1
theorem len_bound {fs : List Int} {b : Int} (hb : b = 2 ∨ b = 3) (h : fs ∈ allS) : (boundedS fs b).length ≤ 600 := by
  have := List.all_eq_true.mp allL_facts fs h
  simp only [Bool.and_eq_true, Nat.ble_eq] at this
  rw [← Ls_len, boundL_eq (by omega) (allS_parts h).2]
  rcases hb with rfl | rfl
  · exact this.2.2.1
  · exact this.2.2.2
theorem sym_short {fs : List Int} (h : fs ∈ allS) : symsP (shortS fs) 120 0 = some (symShort fs) := by
  have e := lex_eq (x := shortS fs) 120 0
  rw [shortL_eq (allS_parts h).2] at e
  have h2 := List.all_eq_true.mp lexS_all fs h
  exact e.trans (beq_iff_eq.mp h2)
theorem sym_bound {fs : List Int} {b : Int} (hb : b = 2 ∨ b = 3) (h : fs ∈ allS) : symsP (boundedS fs b) 200 0 = some (symBounded fs b) := by
  have e := lex_eq (x := boundedS fs b) 200 0
  rw [boundL_eq (by omega) (allS_parts h).2] at e
  rcases hb with rfl | rfl
  · exact e.trans (beq_iff_eq.mp (List.all_eq_true.mp lexB2_all fs h))
  · exact e.trans (beq_iff_eq.mp (List.all_eq_true.mp lexB3_all fs h))
theorem okW_spec {cs sy : List Int} {U : Int} (h : okW cs U sy = true) : ∃ N, worthP U (U ^ 6) (sy ++ [0]) = some N ∧ 0 ≤ N ∧ N < 10 ^ 280 ∧ wdigs U 7 N = cs := by
  unfold okW at h
  split at h
  · rename_i N e
    simp only [Bool.and_eq_true, decide_eq_true_eq, beq_iff_eq] at h
    exact ⟨N, e, h.1.1, h.1.2, h.2⟩
  · cases h
theorem okW_at {fs : List Int} {w : Int} (hw : 4 ≤ w ∧ w ≤ 6) (h : fs ∈ allS) : okW (countsP fs 7) (10 ^ w.toNat) (symShort fs) = true := by
  have : w = 4 ∨ w = 5 ∨ w = 6 := by omega
  rcases this with rfl | rfl | rfl
  · exact List.all_eq_true.mp okW4 fs h
  · exact List.all_eq_true.mp okW5 fs h
  · exact List.all_eq_true.mp okW6 fs h
theorem okB_at {fs : List Int} {w b : Int} (hb : b = 2 ∨ b = 3) (hw : 4 ≤ w ∧ w ≤ 6) (h : fs ∈ allS) : okW (countsP fs b) (10 ^ w.toNat) (symBounded fs b) = true := by
  have : w = 4 ∨ w = 5 ∨ w = 6 := by omega
  rcases hb with rfl | rfl
  · rcases this with rfl | rfl | rfl
    · exact List.all_eq_true.mp okB42 fs h
    · exact List.all_eq_true.mp okB52 fs h
    · exact List.all_eq_true.mp okB62 fs h
  · rcases this with rfl | rfl | rfl
    · exact List.all_eq_true.mp okB43 fs h
    · exact List.all_eq_true.mp okB53 fs h
    · exact List.all_eq_true.mp okB63 fs h
theorem okD_at {bs : List Int} {b z : Int} (hb : b = 2 ∨ b = 3) (hz : 1 ≤ z ∧ z ≤ 7) (h : bs ∈ allS) : okD b bs z = true := by
  have : z = 1 ∨ z = 2 ∨ z = 3 ∨ z = 4 ∨ z = 5 ∨ z = 6 ∨ z = 7 := enumP8 (by omega) (by omega)
  rcases hb with rfl | rfl
  · rcases this with rfl | rfl | rfl | rfl | rfl | rfl | rfl
    · exact List.all_eq_true.mp okD21 bs h
    · exact List.all_eq_true.mp okD22 bs h
    · exact List.all_eq_true.mp okD23 bs h
    · exact List.all_eq_true.mp okD24 bs h
    · exact List.all_eq_true.mp okD25 bs h
    · exact List.all_eq_true.mp okD26 bs h
    · exact List.all_eq_true.mp okD27 bs h
  · rcases this with rfl | rfl | rfl | rfl | rfl | rfl | rfl
    · exact List.all_eq_true.mp okD31 bs h
    · exact List.all_eq_true.mp okD32 bs h
    · exact List.all_eq_true.mp okD33 bs h
    · exact List.all_eq_true.mp okD34 bs h
    · exact List.all_eq_true.mp okD35 bs h
    · exact List.all_eq_true.mp okD36 bs h
    · exact List.all_eq_true.mp okD37 bs h
theorem okE_at {ps : List Int} {z : Int} (hz : 1 ≤ z ∧ z ≤ 7) (h : ps ∈ allS) : okE ps z = true := by
  have : z = 1 ∨ z = 2 ∨ z = 3 ∨ z = 4 ∨ z = 5 ∨ z = 6 ∨ z = 7 := enumP8 (by omega) (by omega)
  rcases this with rfl | rfl | rfl | rfl | rfl | rfl | rfl
  · exact List.all_eq_true.mp okE1 ps h
  · exact List.all_eq_true.mp okE2 ps h
  · exact List.all_eq_true.mp okE3 ps h
  · exact List.all_eq_true.mp okE4 ps h
  · exact List.all_eq_true.mp okE5 ps h
  · exact List.all_eq_true.mp okE6 ps h
  · exact List.all_eq_true.mp okE7 ps h
theorem okV_at {fs : List Int} {m : Int} (hm : m = 7 ∨ m = 2 ∨ m = 3) (h : fs ∈ allS) : ∀ c ∈ countsP fs m, 0 ≤ c ∧ c ≤ 11 := by
  rcases hm with rfl | rfl | rfl
  · exact okV_mem (List.all_eq_true.mp okV7 fs h)
  · exact okV_mem (List.all_eq_true.mp okV2 fs h)
  · exact okV_mem (List.all_eq_true.mp okV3 fs h)
theorem getD_bd {cs : List Int} (h : ∀ c ∈ cs, 0 ≤ c ∧ c ≤ 11) (n : Nat) : 0 ≤ cs.getD n 0 ∧ cs.getD n 0 ≤ 11 := by
  rw [List.getD_eq_getElem?_getD]
  cases e : cs[n]? with
  | none => decide
  | some c => exact h c (List.mem_of_getElem? e)
theorem fitBig {N : Int} (h0 : 0 ≤ N) (h1 : N < 10 ^ 290) : fit N = true := by
  unfold fit
  refine decide_eq_true ?_
  have e : (10 : Int) ^ 290 < ((2 ^ 1000 : Nat) : Int) := by decide +kernel
  omega
theorem sum_drop (l : List Nat) (k : Nat) : (l.drop k).sum ≤ l.sum := by
  conv => rhs; rw [← List.take_append_drop k l]
  rw [List.sum_append]; omega
theorem join_le (ps : List Str) : (Txt.join (Str.ofString ",") ps).length ≤ (ps.map (·.length)).sum + ps.length * 1 := by
  have e1 : (Str.ofString ",").length = 1 := by decide +kernel
  show (Builtin.Str.glued (Str.ofString ",") ps).length ≤ _
  rw [PySem.StrLaws.glued_eq_join, ← e1]
  exact PySem.StrLaws.join_length_le _ _
theorem exc_bd (x y : Int) (fs bs : List Int) : -1 ≤ excessP x y fs bs ∧ excessP x y fs bs ≤ 2 := by
  unfold excessP
  split <;> split <;> split <;> omega
theorem pow_bd {w p : Int} (hw : 4 ≤ w ∧ w ≤ 6) (hp : 1 ≤ p ∧ p ≤ 6) : 0 < ((10 : Int) ^ w.toNat) ^ p.toNat ∧ ((10 : Int) ^ w.toNat) ^ p.toNat ≤ 10 ^ 36 := by
  have h1 : w = 4 ∨ w = 5 ∨ w = 6 := by omega
  have h2 : p = 1 ∨ p = 2 ∨ p = 3 ∨ p = 4 ∨ p = 5 ∨ p = 6 := enumP7 (by omega) (by omega)
  rcases h1 with rfl | rfl | rfl <;> rcases h2 with rfl | rfl | rfl | rfl | rfl | rfl <;> decide +kernel
noncomputable def ptList (xs : List Int) : List Int := (rangeKs 1 6).filter (fun k => !(xs.getD (k - 1).toNat 0 == 0)) ++ [7]
theorem fil_cons (p : Int → Bool) (a : Int) (l : List Int) : (a :: l).filter p = cond (p a) [a] [] ++ l.filter p := by
  rw [List.filter_cons]
  cases p a <;> rfl
theorem part_ok {xs : List Int} (h : xs.length = 6) : 1 ≤ partL xs 1 ∧ partL xs 1 ∈ ptList xs ∧ ∀ a ∈ ptList xs, partL xs 1 ≤ a := by
  match xs, h with
  | [x1, x2, x3, x4, x5, x6], _ =>
    have e : ptList [x1, x2, x3, x4, x5, x6] = ((cond (!(x1 == 0)) [1] []) ++ ((cond (!(x2 == 0)) [2] []) ++ ((cond (!(x3 == 0)) [3] []) ++ ((cond (!(x4 == 0)) [4] []) ++ ((cond (!(x5 == 0)) [5] []) ++ ((cond (!(x6 == 0)) [6] []) ++ [])))))) ++ [7] := by
      show List.filter _ [1, 2, 3, 4, 5, 6] ++ [7] = _
      rw [fil_cons, fil_cons, fil_cons, fil_cons, fil_cons, fil_cons]
      rfl
    rw [e]
    have e2 : partL [x1, x2, x3, x4, x5, x6] 1 = cond (x1 == 0) (cond (x2 == 0) (cond (x3 == 0) (cond (x4 == 0) (cond (x5 == 0) (cond (x6 == 0) 7 6) 5) 4) 3) 2) 1 := by
      simp only [partL]
      cases (x1 == 0) <;> cases (x2 == 0) <;> cases (x3 == 0) <;> cases (x4 == 0) <;> cases (x5 == 0) <;> cases (x6 == 0) <;> rfl
    rw [e2]
    generalize (x1 == 0) = b1
    generalize (x2 == 0) = b2
    generalize (x3 == 0) = b3
    generalize (x4 == 0) = b4
    generalize (x5 == 0) = b5
    generalize (x6 == 0) = b6
    revert b1 b2 b3 b4 b5 b6
    decide
end SPL7
section SPL8
theorem plain_core {b : Int} {bs : List Int} {z w f kd : Int} (hb : b = 2 ∨ b = 3) (hbs : bs ∈ allS) (hz : 1 ≤ z ∧ z ≤ 7) (hw : 4 ≤ w ∧ w ≤ 6) (hf : 1 ≤ f ∧ f ≤ 9) :
    ∃ Nn Mm pt, PlainOk b bs (bs.filter (plnF b bs)) ((rangeKs 1 6).filter (freZ z (bs.filter (plnF b bs)))) (toldP kd w f) (10 ^ w.toNat) Nn Mm pt := by
  have hD := okD_at hb hz hbs
  unfold okD at hD
  dsimp only at hD
  generalize hps : bs.filter (plnF b bs) = ps at hD
  have hE := fun h => okE_at (ps := ps) hz h
  unfold okE at hE
  dsimp only at hE
  generalize hfs : (rangeKs 1 6).filter (freZ z ps) = fs at hD hE
  simp only [Bool.and_eq_true, List.contains_iff_mem, beq_iff_eq, List.all_eq_true] at hD hE
  obtain ⟨⟨⟨hps1, hfs1⟩, hT⟩, hX⟩ := hD
  obtain ⟨hE1, hE2⟩ := hE hps1
  obtain ⟨N, wN, n0, n1, dN⟩ := okW_spec (okW_at hw hfs1)
  obtain ⟨M, wM, m0, m1, dM⟩ := okW_spec (okB_at hb hw hbs)
  have vN := okV_at (m := 7) (.inl rfl) hfs1
  have vM := okV_at (m := b) (.inr hb) hbs
  have lN : (countsP fs 7).length = 7 := by rw [← dN, wdigs_len]
  have lM : (countsP bs b).length = 7 := by rw [← dM, wdigs_len]
  have gN : groupsS N (toldP kd w f) = wordsS w f (wrest (10 ^ w.toNat) 7 N) (countsP fs 7) := by rw [groups_words hf, dN]
  have gM : groupsS M (toldP kd w f) = wordsS w f (wrest (10 ^ w.toNat) 7 M) (countsP bs b) := by rw [groups_words hf, dM]
  have hU0 : (1 : Int) < 10 ^ w.toNat ∧ ((10 : Int) ^ w.toNat).natAbs < 2 ^ 64 ∧ (100 : Int) < 10 ^ w.toNat := by
    have : w = 4 ∨ w = 5 ∨ w = 6 := by omega
    rcases this with rfl | rfl | rfl <;> decide +kernel
  have rN := wrest_bd (show (0 : Int) < 10 ^ w.toNat by omega) 7 N n0
  have rM := wrest_bd (show (0 : Int) < 10 ^ w.toNat by omega) 7 M m0
  have sN := words_sum (R := wrest (10 ^ w.toNat) 7 N) hw hf lN vN rN.1 (by omega)
  have sM := words_sum (R := wrest (10 ^ w.toNat) 7 M) hw hf lM vM rM.1 (by omega)
  have sN2 : ∀ k : Nat, (((groupsS N (toldP kd w f)).drop k).map (·.length)).sum ≤ 400 := fun k => by
    rw [gN, List.map_drop]
    exact Nat.le_trans (sum_drop _ _) sN
  have sM2 : ∀ k : Nat, (((groupsS M (toldP kd w f)).drop k).map (·.length)).sum ≤ 400 := fun k => by
    rw [gM, List.map_drop]
    exact Nat.le_trans (sum_drop _ _) sM
  have jN2 : ∀ k : Nat, (Txt.join (Str.ofString ",") ((groupsS N (toldP kd w f)).drop k)).length ≤ 1000 := fun k => by
    have h1 := join_le ((groupsS N (toldP kd w f)).drop k)
    have h2 := sN2 k
    rw [List.length_drop, gN, words_len lN, ← gN] at h1
    omega
  have jM2 : ∀ k : Nat, (Txt.join (Str.ofString ",") ((groupsS M (toldP kd w f)).drop k)).length ≤ 1000 := fun k => by
    have h1 := join_le ((groupsS M (toldP kd w f)).drop k)
    have h2 := sM2 k
    rw [List.length_drop, gM, words_len lM, ← gM] at h1
    omega
  have hT2 : ∀ j : Int, 1 ≤ j → j < 8 → decide ((countsP fs 7).take j.toNat = (countsP bs b).take j.toNat) = decide (j ≤ partL (excL b fs bs) 1) := fun j h1 h8 => by
    have hm : j ∈ rangeKs 1 7 := by
      have : j = 1 ∨ j = 2 ∨ j = 3 ∨ j = 4 ∨ j = 5 ∨ j = 6 ∨ j = 7 := enumP8 (by omega) (by omega)
      rcases this with rfl | rfl | rfl | rfl | rfl | rfl | rfl <;> decide
    rw [← hT j hm, Bool.eq_iff_iff, decide_eq_true_iff, beq_iff_eq]
  have hx6 : (excL b fs bs).length = 6 := by unfold excL; rw [List.length_map, rangeKs_length]
  have hpt := part_ok hx6
  have hT3 : ∀ j : Int, 1 ≤ j → j < 8 → ellP (Str.ofString "...," ++ Txt.join (Str.ofString ",") ((groupsS N (toldP kd w f)).drop (8 - j).toNat)) (Txt.join (Str.ofString ",") (groupsS M (toldP kd w f))) = some (decide (j ≤ partL (excL b fs bs) 1)) := fun j h1 h8 => by
    rw [gN, gM, match_words hw hf lN lM vN vM h1 h8, hT2 j h1 h8]
  refine ⟨N, M, partL (excL b fs bs) 1, ?_⟩
  generalize hp : partL (excL b fs bs) 1 = pt at hX hpt hT2 hT3
  have nsz : ∀ x ∈ toldP kd w f, 1 ≤ x ∧ x ≤ 9 := fun x hx => by
    unfold toldP at hx
    split at hx
    · simp only [List.mem_cons, List.not_mem_nil, or_false] at hx
      omega
    · simp only [List.mem_cons, List.not_mem_nil, or_false] at hx
      omega
  have nsl : 0 < (toldP kd w f).length ∧ (toldP kd w f).length < 100 := by
    unfold toldP
    split <;> simp
  exact {
    hb := by omega
    pB := allS_parts hbs
    pP := allS_parts hps1
    pF := allS_parts hfs1
    hU := hU0.2.1
    worthF := ⟨120, symShort fs, len_short hfs1, sym_short hfs1, wN⟩
    worthB := ⟨200, symBounded bs b, len_bound hb hbs, sym_bound hb hbs, wM⟩
    n0 := n0
    n1 := fitBig n0 (by omega)
    m0 := m0
    m1 := fitBig m0 (by omega)
    nsl := nsl
    nsz := nsz
    gl := by rw [gN, words_len lN]
    ll := by rw [gM, words_len lM]
    gI := fun k h0 h7 => by
      have hp9 := pad_at hw (getD_bd vN k.toNat)
      rw [gN, words_at lN h0 h7]
      exact ⟨hp9.1, by rw [hp9.2.1]; omega⟩
    lI := fun k h0 h7 => by
      have hp9 := pad_at hw (getD_bd vM k.toNat)
      rw [gM, words_at lM h0 h7]
      exact ⟨hp9.1, by rw [hp9.2.1]; omega⟩
    gC := getD_all lN
    lC := getD_all lM
    ptM := fun M' hM1 hM2 => Int.le_antisymm (hM2 _ hpt.2.1) (hpt.2.2 _ hM1)
    pt1 := hpt.1
    pgOk := by
      have e1 : (Str.ofString ",").length = 1 := by decide +kernel
      rw [gM, words_len lM, e1]
      omega
    pgl := by
      have := jM2 0
      rw [List.drop_zero] at this
      omega
    gs2 := fun k => Nat.le_trans (sN2 k) (by decide)
    gj2 := jN2
    e21 := hT3
    e22 := fun h7 => by
      have hc : (countsP bs b).getD pt.toNat 0 = (countsP fs 7).getD pt.toNat 0 - (excL b fs bs).getD (pt - 1).toNat 0 := by
        rw [if_pos h7] at hX
        exact beq_iff_eq.mp hX
      have hpb := pow_bd hw (p := pt) ⟨hpt.1, by omega⟩
      have he : -1 ≤ (excL b fs bs).getD (pt - 1).toNat 0 ∧ (excL b fs bs).getD (pt - 1).toNat 0 ≤ 2 := by
        rw [List.getD_eq_getElem?_getD]
        cases e : (excL b fs bs)[(pt - 1).toNat]? with
        | none => decide
        | some c =>
          obtain ⟨k, _, rfl⟩ := List.mem_map.mp (List.mem_of_getElem? e)
          exact exc_bd _ _ _ _
      have hcl := getD_bd vM pt.toNat
      have hge := wd_ge hU0.1 pt.toNat 7 N (by omega) n0
      rw [dN] at hge
      have hsub := wd_sub hU0.1 hcl.1 (by omega) pt.toNat 7 N ((excL b fs bs).getD (pt - 1).toNat 0) (by omega) (by rw [dN]; exact hc.symm)
      rw [dN] at hsub
      have htk : (countsP fs 7).take pt.toNat = (countsP bs b).take pt.toNat := by
        have h9 := hT2 pt hpt.1 (by omega)
        rw [decide_eq_true (Int.le_refl pt)] at h9
        exact of_decide_eq_true h9
      have hcl1 : (countsP bs b).take (pt.toNat + 1) = (countsP bs b).take pt.toNat ++ [(countsP bs b).getD pt.toNat 0] := by
        rw [List.take_add_one, List.getD_eq_getElem?_getD, List.getElem?_eq_getElem (show pt.toNat < (countsP bs b).length by omega)]
        rfl
      rw [htk, ← hcl1] at hsub
      have e8 : (8 - (pt + 1)).toNat = (7 - pt).toNat := by congr 1; omega
      have e9 : (pt + 1).toNat = pt.toNat + 1 := by have := hpt.1; omega
      have hdrop : (groupsS (N - (excL b fs bs).getD (pt - 1).toNat 0 * (10 ^ w.toNat) ^ pt.toNat) (toldP kd w f)).drop (7 - pt).toNat = (groupsS M (toldP kd w f)).drop (7 - pt).toNat := by
        rw [groups_words hf, gM, ← e8, words_drop (wdigs_len _ _ _) (by have := hpt.1; omega) (by omega), words_drop lM (by have := hpt.1; omega) (by omega), e9, hsub]
      have hlen : (groupsS (N - (excL b fs bs).getD (pt - 1).toNat 0 * (10 ^ w.toNat) ^ pt.toNat) (toldP kd w f)).length = 9 := by
        rw [groups_words hf, words_len (wdigs_len _ _ _)]
      have hell : ellP (Str.ofString "...," ++ Txt.join (Str.ofString ",") ((groupsS M (toldP kd w f)).drop (7 - pt).toNat)) (Txt.join (Str.ofString ",") (groupsS M (toldP kd w f))) = some true := by
        rw [gM, ← e8, match_words hw hf lM lM vM vM (by have := hpt.1; omega) (by omega), decide_eq_true rfl]
      have hcv : (countsP fs 7).getD pt.toNat 0 * (10 ^ w.toNat) ^ pt.toNat - (excL b fs bs).getD (pt - 1).toNat 0 * (10 ^ w.toNat) ^ pt.toNat = (countsP bs b).getD pt.toNat 0 * (10 ^ w.toNat) ^ pt.toNat := by
        rw [← Int.sub_mul, hc]
      have hcv2 := Int.mul_nonneg hcl.1 (Int.le_of_lt hpb.1)
      have hcv3 := Int.mul_nonneg (show 0 ≤ 1 + (excL b fs bs).getD (pt - 1).toNat 0 by omega) (Int.le_of_lt hpb.1)
      rw [Int.add_mul, Int.one_mul] at hcv3
      have h0 : 0 ≤ N - (excL b fs bs).getD (pt - 1).toNat 0 * (10 ^ w.toNat) ^ pt.toNat := by omega
      have h36 : (10 : Int) ^ 280 + 10 ^ 36 < 10 ^ 290 := by decide +kernel
      have h290 : N - (excL b fs bs).getD (pt - 1).toNat 0 * (10 ^ w.toNat) ^ pt.toNat < 10 ^ 290 := by
        have h1 : N - (excL b fs bs).getD (pt - 1).toNat 0 * (10 ^ w.toNat) ^ pt.toNat ≤ N + (10 ^ w.toNat) ^ pt.toNat := by omega
        have h2 : N + (10 ^ w.toNat) ^ pt.toNat ≤ 10 ^ 280 + 10 ^ 36 := Int.add_le_add (Int.le_of_lt n1) hpb.2
        exact Int.lt_of_le_of_lt (Int.le_trans h1 h2) h36
      have hfe : fit ((excL b fs bs).getD (pt - 1).toNat 0) = true := by
        unfold fit
        refine decide_eq_true (Nat.lt_of_le_of_lt (show _ ≤ 2 by omega) (by decide +kernel))
      refine ⟨_, rfl, h0, fitBig h0 h290, hfe, fitBig (Int.le_of_lt hpb.1) (Int.lt_of_le_of_lt hpb.2 (by decide +kernel)), hlen, ?_, ?_, ?_⟩
      · rw [hdrop]; exact Nat.le_trans (sM2 _) (by decide)
      · rw [hdrop]; exact jM2 _
      · rw [hdrop]; exact hell
    l1 := ⟨Nat.lt_of_le_of_lt (len_short hfs1) (by decide), Nat.lt_of_le_of_lt (len_long hps1) (by decide)⟩
    l2 := ⟨Nat.lt_of_le_of_lt (len_short hps1) (by decide), Nat.lt_of_le_of_lt (len_long hfs1) (by decide)⟩
    e23 := by rw [ell_L, shortL_eq (allS_parts hfs1).2, longL_eq (allS_parts hps1).2]; exact hE1
    e24 := by rw [ell_L, shortL_eq (allS_parts hps1).2, longL_eq (allS_parts hfs1).2]; exact hE2 }
end SPL8
section SPL9
theorem mem_subsL {l L : List Int} (h : l.Sublist L) : l ∈ subsL L := by
  induction h with
  | slnil => exact List.mem_singleton_self _
  | cons a _ ih => exact List.mem_append_left _ ih
  | cons_cons a _ ih => exact List.mem_append_right _ (List.mem_map_of_mem ih)
theorem fold_sub (d0 d1 b : Int) : ∀ (r pre ys : List Int), ys.Sublist pre → (r.foldl (bstepP d0 d1 b) ys).Sublist (pre ++ r)
  | [], pre, ys, h => by rw [List.append_nil]; exact h
  | p :: r, pre, ys, h => by
    rw [List.foldl_cons, List.append_cons]
    refine fold_sub d0 d1 b r (pre ++ [p]) _ ?_
    unfold bstepP
    split
    · exact h.append (List.Sublist.refl _)
    · exact h.trans (List.sublist_append_left _ _)
theorem bdd_mem (e0 e1 : Int) : bddP e0 e1 ∈ allS := by
  unfold bddP
  exact mem_subsL (fold_sub e0 e1 (bndP e1) [1, 2, 3, 4, 5, 6] [] [] (List.Sublist.refl _))
theorem fre_eq (e2 : Int) (ps : List Int) : ∃ z, (1 ≤ z ∧ z ≤ 7) ∧ (rangeKs 1 6).filter (freF e2 ps) = (rangeKs 1 6).filter (freZ z ps) := by
  have h1 := fmod_lo e2 (show (0 : Int) < 9 by decide)
  have h2 := fmod_hi e2 (show (0 : Int) < 9 by decide)
  by_cases h : Int.fmod e2 9 + 1 ≤ 7
  · refine ⟨Int.fmod e2 9 + 1, ⟨by omega, h⟩, List.filter_congr fun p _ => ?_⟩
    unfold freF freZ; rfl
  · refine ⟨7, ⟨by decide, by decide⟩, List.filter_congr fun p hp => ?_⟩
    have hp2 := mem_rangeKs hp
    unfold freF freZ
    rw [beq_eq_false_iff_ne.mpr (show p ≠ Int.fmod e2 9 + 1 by omega), beq_eq_false_iff_ne.mpr (show p ≠ 7 by omega)]
theorem plain (e0 e1 e2 e3 : Int) : ∃ Nn Mm pt, PlainOk (bndP e1) (bddP e0 e1) ((bddP e0 e1).filter (plnF (bndP e1) (bddP e0 e1))) ((rangeKs 1 6).filter (freF e2 ((bddP e0 e1).filter (plnF (bndP e1) (bddP e0 e1))))) (toldP (Int.fmod (Int.fdiv e3 3) 4) (4 + Int.fmod e3 3) (1 + Int.fmod (Int.fdiv e3 12) 9)) (10 ^ (4 + Int.fmod e3 3).toNat) Nn Mm pt := by
  have hb := bnd_range e1
  have hw0 := fmod_lo e3 (show (0 : Int) < 3 by decide)
  have hw1 := fmod_hi e3 (show (0 : Int) < 3 by decide)
  have hf0 := fmod_lo (Int.fdiv e3 12) (show (0 : Int) < 9 by decide)
  have hf1 := fmod_hi (Int.fdiv e3 12) (show (0 : Int) < 9 by decide)
  obtain ⟨z, hz, ez⟩ := fre_eq e2 ((bddP e0 e1).filter (plnF (bndP e1) (bddP e0 e1)))
  rw [ez]
  exact plain_core (by omega) (bdd_mem e0 e1) hz (by omega) (by omega)
end SPL9
end Mine
theorem PySem.Challenge.cw_wo0041_01_holds : PySem.Challenge.rw_wo0041_01.Holds := by
  exact Mine.t Mine.plain
